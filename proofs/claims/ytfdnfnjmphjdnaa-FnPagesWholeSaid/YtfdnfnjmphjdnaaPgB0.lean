/- What a writer of pages does: a write. -/
import Derived.Test.YtfdnfnjmphjdnaaPgA0
set_option linter.unusedVariables false
set_option linter.unusedSimpArgs false
namespace Go.Proofs.Ytfdnfnjmphjdnaa
open Go Go.RowKit Gw

set_option maxHeartbeats 400000 in
theorem kWriteFit (R : HP) (pw bb bl page wm po : Nat) (pd : List Int) (junk : List Value) (V : Value) (ws : List (List Int)) (p : Value) (k : Nat) (ns : List Int) (hP : RS R 1 p k (bytesV ns)) (h1 : 0 < page) (h2 : page ≤ 65536) (h3 : page ≤ wm) (h4 : wm ≤ 1048576) (h5 : po ≤ 2199023255552) (h6 : pd.length + junk.length = wm + page) (h7 : ws.length ≤ 900) (hfit : k + pd.length ≤ wm) :
    Tri Try.prog 56 #[(Value.pointer (some ⟨pw, 0, none⟩)), p] R [cl pw 142 [(Value.iface 89 (Value.pointer (some ⟨bl, 0, none⟩))), (Value.int .i64 (po : Int)), (Value.int .i64 (page : Int)), (Value.int .i64 (pd.length : Int)), (Value.slice (some ⟨bb, 0, none⟩) (wm + page) (wm + page)), (Value.int .i64 (wm : Int))], cl bb 5 (bytesV pd ++ junk), cl bl 91 [V], sl 9 1 V ws.length (strs ws)] (fun v post => ∃ (junk' : List Value), v = .tuple #[.int .i64 k, .nilIface] ∧ post = [cl pw 142 [(Value.iface 89 (Value.pointer (some ⟨bl, 0, none⟩))), (Value.int .i64 (po : Int)), (Value.int .i64 (page : Int)), (Value.int .i64 ((pd ++ ns).length : Int)), (Value.slice (some ⟨bb, 0, none⟩) (wm + page) (wm + page)), (Value.int .i64 (wm : Int))], cl bb 5 (bytesV (pd ++ ns) ++ junk'), cl bl 91 [V], sl 9 1 V ws.length (strs ws)] ∧ junk' = List.drop ns.length junk) := by
  have hk := RS.blen hP
  refine Tri.into (n := 170) (al := [(Value.pointer (some ⟨pw, 0, none⟩)), p]) Try.func56 rfl Try.ntmps56 rfl rfl fun w F H => ?_
  replace H : Holds w (ro R :: cl pw 142 [(Value.iface 89 (Value.pointer (some ⟨bl, 0, none⟩))), (Value.int .i64 (po : Int)), (Value.int .i64 (page : Int)), (Value.int .i64 (pd.length : Int)), (Value.slice (some ⟨bb, 0, none⟩) (wm + page) (wm + page)), (Value.int .i64 (wm : Int))] :: cl bb 5 (bytesV pd ++ junk) :: cl bl 91 [V] :: sl 9 1 V ws.length (strs ws) :: F) := H
  refine C_seq (fun K1_ hK1_ => ?_)
  refine C_reg ?_
  refine S_list (T_val (v := (Value.int .i64 0)) (x_assign rfl) ?_)
  refine S_list (T_val (v := (Value.nilIface)) (x_assign rfl) ?_)
  refine wpList_nil ?_
  refine (X_then (hK1_ _ _ ?_))
  clear hK1_
  refine C_seq (fun K2_ hK2_ => ?_)
  refine C_seq (fun K3_ hK3_ => ?_)
  refine A_start (S := fun w => Rd pw [(Value.iface 89 (Value.pointer (some ⟨bl, 0, none⟩))), (Value.int .i64 (po : Int)), (Value.int .i64 (page : Int)), (Value.int .i64 (pd.length : Int)), (Value.slice (some ⟨bb, 0, none⟩) (wm + page) (wm + page)), (Value.int .i64 (wm : Int))] w ∧ Sub R (hp w)) (N := 12) foll rfl rfl ?_
  have H5_ : Holds w.drew (ro R :: cl pw 142 [(Value.iface 89 (Value.pointer (some ⟨bl, 0, none⟩))), (Value.int .i64 (po : Int)), (Value.int .i64 (page : Int)), (Value.int .i64 (pd.length : Int)), (Value.slice (some ⟨bb, 0, none⟩) (wm + page) (wm + page)), (Value.int .i64 (wm : Int))] :: cl bb 5 (bytesV pd ++ junk) :: cl bl 91 [V] :: sl 9 1 V ws.length (strs ws) :: F) := H
  refine A_take 0 (ls' := #[true, false, false, false, false, false, false, false, false, false, false, false]) (v := p) rfl (by kernel_rfl) (by kernel_rfl) (by kernel_rfl) (by kernel_rfl) (fun _ _ _ h => h) (fun w hS => x_move rfl) ⟨Holds.rd H5_ 1 rfl, Holds.ro_at H5_ 0 rfl⟩ ?_
  refine A_take 1 (ls' := #[true, true, false, false, false, false, false, false, false, false, false, false]) (v := (Value.int .i64 (k : Int))) rfl (by kernel_rfl) (by kernel_rfl) (by kernel_rfl) (by kernel_rfl) (fun _ _ _ h => h) (fun w hS => x_lenRS rfl hP Try.underlying25) ⟨Holds.rd H5_ 1 rfl, Holds.ro_at H5_ 0 rfl⟩ ?_
  refine A_take 2 (ls' := #[true, true, true, false, false, false, false, false, false, false, false, false]) (v := (Value.pointer (some ⟨pw, 0, none⟩))) rfl (by kernel_rfl) (by kernel_rfl) (by kernel_rfl) (by kernel_rfl) (fun _ _ _ h => h) (fun w hS => x_move rfl) ⟨Holds.rd H5_ 1 rfl, Holds.ro_at H5_ 0 rfl⟩ ?_
  refine A_take 3 (ls' := #[true, true, true, true, false, false, false, false, false, false, false, false]) (v := (Value.pointer (some ⟨pw, 0, none⟩))) rfl (by kernel_rfl) (by kernel_rfl) (by kernel_rfl) (by kernel_rfl) (fun _ _ _ h => h) (fun w hS => by kernel_rfl) ⟨Holds.rd H5_ 1 rfl, Holds.ro_at H5_ 0 rfl⟩ ?_
  refine A_take 4 (ls' := #[true, true, true, true, true, false, false, false, false, false, false, false]) (v := (Value.pointer (some ⟨pw, 3, none⟩))) rfl (by kernel_rfl) (by kernel_rfl) (by kernel_rfl) (by kernel_rfl) (fun _ _ _ h => h) (fun w hS => by kernel_rfl) ⟨Holds.rd H5_ 1 rfl, Holds.ro_at H5_ 0 rfl⟩ ?_
  refine A_take 5 (ls' := #[true, true, true, true, true, true, false, false, false, false, false, false]) (v := (Value.int .i64 (pd.length : Int))) rfl (by kernel_rfl) (by kernel_rfl) (by kernel_rfl) (by kernel_rfl) (fun _ _ _ h => h) (fun w hS => x_load1 rfl Try.underlying3 rfl (hS.1 3 (Value.int .i64 (pd.length : Int)) rfl)) ⟨Holds.rd H5_ 1 rfl, Holds.ro_at H5_ 0 rfl⟩ ?_
  refine A_take 6 (ls' := #[true, true, true, true, true, true, true, false, false, false, false, false]) (v := (Value.int .i64 ((k : Int) + (pd.length : Int)))) rfl (by kernel_rfl) (by kernel_rfl) (by kernel_rfl) (by kernel_rfl) (fun _ _ _ h => h) (fun w hS => x_bin rfl rfl (ib_add (IntWalk.i64_in _ (by omega)))) ⟨Holds.rd H5_ 1 rfl, Holds.ro_at H5_ 0 rfl⟩ ?_
  refine A_take 7 (ls' := #[true, true, true, true, true, true, true, true, false, false, false, false]) (v := (Value.pointer (some ⟨pw, 0, none⟩))) rfl (by kernel_rfl) (by kernel_rfl) (by kernel_rfl) (by kernel_rfl) (fun _ _ _ h => h) (fun w hS => x_move rfl) ⟨Holds.rd H5_ 1 rfl, Holds.ro_at H5_ 0 rfl⟩ ?_
  refine A_take 8 (ls' := #[true, true, true, true, true, true, true, true, true, false, false, false]) (v := (Value.pointer (some ⟨pw, 0, none⟩))) rfl (by kernel_rfl) (by kernel_rfl) (by kernel_rfl) (by kernel_rfl) (fun _ _ _ h => h) (fun w hS => by kernel_rfl) ⟨Holds.rd H5_ 1 rfl, Holds.ro_at H5_ 0 rfl⟩ ?_
  refine A_take 9 (ls' := #[true, true, true, true, true, true, true, true, true, true, false, false]) (v := (Value.pointer (some ⟨pw, 5, none⟩))) rfl (by kernel_rfl) (by kernel_rfl) (by kernel_rfl) (by kernel_rfl) (fun _ _ _ h => h) (fun w hS => by kernel_rfl) ⟨Holds.rd H5_ 1 rfl, Holds.ro_at H5_ 0 rfl⟩ ?_
  refine A_take 10 (ls' := #[true, true, true, true, true, true, true, true, true, true, true, false]) (v := (Value.int .i64 (wm : Int))) rfl (by kernel_rfl) (by kernel_rfl) (by kernel_rfl) (by kernel_rfl) (fun _ _ _ h => h) (fun w hS => x_load1 rfl Try.underlying3 rfl (hS.1 5 (Value.int .i64 (wm : Int)) rfl)) ⟨Holds.rd H5_ 1 rfl, Holds.ro_at H5_ 0 rfl⟩ ?_
  refine A_take 11 (ls' := #[true, true, true, true, true, true, true, true, true, true, true, true]) (v := (Value.bool (decide ((k : Int) + (pd.length : Int) ≤ (wm : Int))))) rfl (by kernel_rfl) (by kernel_rfl) (by kernel_rfl) (by kernel_rfl) (fun _ _ _ h => h) (fun w hS => x_bin rfl rfl rfl) ⟨Holds.rd H5_ 1 rfl, Holds.ro_at H5_ 0 rfl⟩ ?_
  refine A_done (by kernel_rfl) ?_
  refine (X_then (hK3_ _ _ ?_))
  clear hK3_
  refine C_cond (b := decide ((k : Int) + (pd.length : Int) ≤ (wm : Int))) rfl (fun c6_t => ?_) (fun c6_f => ?_)
  · have c6_tp : (k : Int) + (pd.length : Int) ≤ (wm : Int) := of_decide_eq_true c6_t
    refine C_seq (fun K7_ hK7_ => ?_)
    refine A_start (S := fun w => Rd pw [(Value.iface 89 (Value.pointer (some ⟨bl, 0, none⟩))), (Value.int .i64 (po : Int)), (Value.int .i64 (page : Int)), (Value.int .i64 (pd.length : Int)), (Value.slice (some ⟨bb, 0, none⟩) (wm + page) (wm + page)), (Value.int .i64 (wm : Int))] w ∧ Sub R (hp w)) (N := 11) foll rfl rfl ?_
    have H9_ : Holds w.drew.drew (ro R :: cl pw 142 [(Value.iface 89 (Value.pointer (some ⟨bl, 0, none⟩))), (Value.int .i64 (po : Int)), (Value.int .i64 (page : Int)), (Value.int .i64 (pd.length : Int)), (Value.slice (some ⟨bb, 0, none⟩) (wm + page) (wm + page)), (Value.int .i64 (wm : Int))] :: cl bb 5 (bytesV pd ++ junk) :: cl bl 91 [V] :: sl 9 1 V ws.length (strs ws) :: F) := H5_
    refine A_take 0 (ls' := #[true, false, false, false, false, false, false, false, false, false, false]) (v := (Value.pointer (some ⟨pw, 0, none⟩))) rfl (by kernel_rfl) (by kernel_rfl) (by kernel_rfl) (by kernel_rfl) (fun _ _ _ h => h) (fun w hS => x_move rfl) ⟨Holds.rd H9_ 1 rfl, Holds.ro_at H9_ 0 rfl⟩ ?_
    refine A_take 1 (ls' := #[true, true, false, false, false, false, false, false, false, false, false]) (v := (Value.pointer (some ⟨pw, 0, none⟩))) rfl (by kernel_rfl) (by kernel_rfl) (by kernel_rfl) (by kernel_rfl) (fun _ _ _ h => h) (fun w hS => by kernel_rfl) ⟨Holds.rd H9_ 1 rfl, Holds.ro_at H9_ 0 rfl⟩ ?_
    refine A_take 2 (ls' := #[true, true, true, false, false, false, false, false, false, false, false]) (v := (Value.pointer (some ⟨pw, 4, none⟩))) rfl (by kernel_rfl) (by kernel_rfl) (by kernel_rfl) (by kernel_rfl) (fun _ _ _ h => h) (fun w hS => by kernel_rfl) ⟨Holds.rd H9_ 1 rfl, Holds.ro_at H9_ 0 rfl⟩ ?_
    refine A_take 3 (ls' := #[true, true, true, true, false, false, false, false, false, false, false]) (v := (Value.slice (some ⟨bb, 0, none⟩) (wm + page) (wm + page))) rfl (by kernel_rfl) (by kernel_rfl) (by kernel_rfl) (by kernel_rfl) (fun _ _ _ h => h) (fun w hS => x_load1 rfl Try.underlying25 rfl (hS.1 4 (Value.slice (some ⟨bb, 0, none⟩) (wm + page) (wm + page)) rfl)) ⟨Holds.rd H9_ 1 rfl, Holds.ro_at H9_ 0 rfl⟩ ?_
    refine A_take 4 (ls' := #[true, true, true, true, true, false, false, false, false, false, false]) (v := (Value.pointer (some ⟨pw, 0, none⟩))) rfl (by kernel_rfl) (by kernel_rfl) (by kernel_rfl) (by kernel_rfl) (fun _ _ _ h => h) (fun w hS => x_move rfl) ⟨Holds.rd H9_ 1 rfl, Holds.ro_at H9_ 0 rfl⟩ ?_
    refine A_take 5 (ls' := #[true, true, true, true, true, true, false, false, false, false, false]) (v := (Value.pointer (some ⟨pw, 0, none⟩))) rfl (by kernel_rfl) (by kernel_rfl) (by kernel_rfl) (by kernel_rfl) (fun _ _ _ h => h) (fun w hS => by kernel_rfl) ⟨Holds.rd H9_ 1 rfl, Holds.ro_at H9_ 0 rfl⟩ ?_
    refine A_take 6 (ls' := #[true, true, true, true, true, true, true, false, false, false, false]) (v := (Value.pointer (some ⟨pw, 3, none⟩))) rfl (by kernel_rfl) (by kernel_rfl) (by kernel_rfl) (by kernel_rfl) (fun _ _ _ h => h) (fun w hS => by kernel_rfl) ⟨Holds.rd H9_ 1 rfl, Holds.ro_at H9_ 0 rfl⟩ ?_
    refine A_take 7 (ls' := #[true, true, true, true, true, true, true, true, false, false, false]) (v := (Value.int .i64 (pd.length : Int))) rfl (by kernel_rfl) (by kernel_rfl) (by kernel_rfl) (by kernel_rfl) (fun _ _ _ h => h) (fun w hS => x_load1 rfl Try.underlying3 rfl (hS.1 3 (Value.int .i64 (pd.length : Int)) rfl)) ⟨Holds.rd H9_ 1 rfl, Holds.ro_at H9_ 0 rfl⟩ ?_
    refine A_take 8 (ls' := #[true, true, true, true, true, true, true, true, true, false, false]) (v := (Value.slice (some ⟨bb, pd.length, none⟩) ((wm + page) - pd.length) ((wm + page) - pd.length))) rfl (by kernel_rfl) (by kernel_rfl) (by kernel_rfl) (by kernel_rfl) (fun _ _ _ h => h) (fun w hS => x_slice (l := pd.length) (h := (wm + page)) rfl Try.underlying25 z5 rfl ⟨_, _, rfl, by omega, by omega, by omega⟩ ((by rw [if_neg (by omega)]; first | rfl | simp [add_mk]))) ⟨Holds.rd H9_ 1 rfl, Holds.ro_at H9_ 0 rfl⟩ ?_
    refine A_take 9 (ls' := #[true, true, true, true, true, true, true, true, true, true, false]) (v := p) rfl (by kernel_rfl) (by kernel_rfl) (by kernel_rfl) (by kernel_rfl) (fun _ _ _ h => h) (fun w hS => x_move rfl) ⟨Holds.rd H9_ 1 rfl, Holds.ro_at H9_ 0 rfl⟩ ?_
    refine A_ready (i := 10) (rs := []) (by kernel_rfl) ?_
    refine AllR.cons ?_ AllR.nil
    refine A_op (ls' := #[true, true, true, true, true, true, true, true, true, true, true]) rfl (by kernel_rfl) (T_copy rfl rfl Try.underlying25 z5 H9_ 2 rfl hP (Holds.ro_at H9_ 0 rfl) (by omega) (by simp only [List.length_append, bytesV_len]; omega) (one_bytes _) ?_)
    intro w10_ S12_ H11_
    replace H11_ : Holds w10_ (ro R :: cl pw 142 [(Value.iface 89 (Value.pointer (some ⟨bl, 0, none⟩))), (Value.int .i64 (po : Int)), (Value.int .i64 (page : Int)), (Value.int .i64 (pd.length : Int)), (Value.slice (some ⟨bb, 0, none⟩) (wm + page) (wm + page)), (Value.int .i64 (wm : Int))] :: cl bb 5 (List.take pd.length (bytesV pd ++ junk) ++ (bytesV ns) ++ List.drop (pd.length + List.length (bytesV ns)) (bytesV pd ++ junk)) :: cl bl 91 [V] :: sl 9 1 V ws.length (strs ws) :: F) := H11_
    have S13_ := Same.trans (Same.trans (Same.trans (Same.refl w) (Same.drew _)) (Same.drew _)) S12_
    refine ⟨⟨Holds.rd H11_ 1 rfl, Holds.ro_at H11_ 0 rfl⟩, ?_⟩
    refine A_done (by kernel_rfl) ?_
    refine (X_then (hK7_ _ _ ?_))
    clear hK7_
    refine C_seq (fun K14_ hK14_ => ?_)
    refine C_reg ?_
    refine S_list (T_val (v := (Value.pointer (some ⟨pw, 0, none⟩))) (x_move rfl) ?_)
    refine S_list (T_val (v := (Value.pointer (some ⟨pw, 0, none⟩))) (by kernel_rfl) ?_)
    refine S_list (T_val (v := (Value.pointer (some ⟨pw, 3, none⟩))) (by kernel_rfl) ?_)
    refine S_list (T_val (v := (Value.int .i64 (pd.length : Int))) (x_load1 rfl Try.underlying3 rfl ((Holds.rd H11_ 1 rfl) 3 (Value.int .i64 (pd.length : Int)) rfl)) ?_)
    refine S_list (T_val (v := p) (x_move rfl) ?_)
    refine S_list (T_val (v := (Value.int .i64 (k : Int))) (x_lenRS rfl hP Try.underlying25) ?_)
    refine S_list (T_val (v := (Value.int .i64 ((pd.length : Int) + (k : Int)))) (x_bin rfl rfl (ib_add (IntWalk.i64_in _ (by omega)))) ?_)
    refine S_list (T_val (v := (Value.pointer (some ⟨pw, 0, none⟩))) (by kernel_rfl) ?_)
    refine S_list (T_val (v := (Value.pointer (some ⟨pw, 3, none⟩))) (by kernel_rfl) ?_)
    refine S_list0 (T_store1 (v := (Value.int .i64 ((pd.length : Int) + (k : Int)))) rfl rfl z3 rfl H11_ 1 rfl (Nat.le_of_ble_eq_true (by rfl)) ?_)
    intro w15_ S17_ H16_
    replace H16_ : Holds w15_ (ro R :: cl pw 142 [(Value.iface 89 (Value.pointer (some ⟨bl, 0, none⟩))), (Value.int .i64 (po : Int)), (Value.int .i64 (page : Int)), (Value.int .i64 ((pd.length : Int) + (k : Int))), (Value.slice (some ⟨bb, 0, none⟩) (wm + page) (wm + page)), (Value.int .i64 (wm : Int))] :: cl bb 5 (List.take pd.length (bytesV pd ++ junk) ++ (bytesV ns) ++ List.drop (pd.length + List.length (bytesV ns)) (bytesV pd ++ junk)) :: cl bl 91 [V] :: sl 9 1 V ws.length (strs ws) :: F) := H16_
    have S18_ := Same.trans S13_ S17_
    refine wpList_nil ?_
    refine (X_then (hK14_ _ _ ?_))
    clear hK14_
    refine C_seq (fun K19_ hK19_ => ?_)
    refine C_reg ?_
    refine S_list (T_val (v := p) (x_move rfl) ?_)
    refine S_list (T_val (v := (Value.int .i64 (k : Int))) (x_lenRS rfl hP Try.underlying25) ?_)
    refine S_list (T_val (v := (Value.int .i64 (k : Int))) (x_assign rfl) ?_)
    refine S_list (T_val (v := (Value.nilIface)) (x_assign rfl) ?_)
    refine wpList_nil ?_
    refine (X_then (hK19_ _ _ ?_))
    clear hK19_
    refine C_ret (X_thenR ?_)
    refine R_any (v := (Value.tuple #[(Value.int .i64 (k : Int)), (Value.nilIface)])) (run_results2 rfl rfl rfl) ?_
    have H20_ : Holds w15_ (ro R :: cl pw 142 [(Value.iface 89 (Value.pointer (some ⟨bl, 0, none⟩))), (Value.int .i64 (po : Int)), (Value.int .i64 (page : Int)), (Value.int .i64 ((pd.length : Int) + (k : Int))), (Value.slice (some ⟨bb, 0, none⟩) (wm + page) (wm + page)), (Value.int .i64 (wm : Int))] :: cl bb 5 (bytesV (pd ++ ns) ++ List.drop ns.length junk) :: cl bl 91 [V] :: sl 9 1 V ws.length (strs ws) :: F) := cast1 (P := fun (c__ : List Value) => Holds w15_ (ro R :: cl pw 142 [(Value.iface 89 (Value.pointer (some ⟨bl, 0, none⟩))), (Value.int .i64 (po : Int)), (Value.int .i64 (page : Int)), (Value.int .i64 ((pd.length : Int) + (k : Int))), (Value.slice (some ⟨bb, 0, none⟩) (wm + page) (wm + page)), (Value.int .i64 (wm : Int))] :: cl bb 5 c__ :: cl bl 91 [V] :: sl 9 1 V ws.length (strs ws) :: F)) (buf_put pd ns junk : List.take pd.length (bytesV pd ++ junk) ++ (bytesV ns) ++ List.drop (pd.length + List.length (bytesV ns)) (bytesV pd ++ junk) = bytesV (pd ++ ns) ++ List.drop ns.length junk) H16_
    have H21_ : Holds w15_ (ro R :: cl pw 142 [(Value.iface 89 (Value.pointer (some ⟨bl, 0, none⟩))), (Value.int .i64 (po : Int)), (Value.int .i64 (page : Int)), (Value.int .i64 ((pd ++ ns).length : Int)), (Value.slice (some ⟨bb, 0, none⟩) (wm + page) (wm + page)), (Value.int .i64 (wm : Int))] :: cl bb 5 (bytesV (pd ++ ns) ++ List.drop ns.length junk) :: cl bl 91 [V] :: sl 9 1 V ws.length (strs ws) :: F) := cast1 (P := fun (c__ : List Value) => Holds w15_ (ro R :: cl pw 142 c__ :: cl bb 5 (bytesV (pd ++ ns) ++ List.drop ns.length junk) :: cl bl 91 [V] :: sl 9 1 V ws.length (strs ws) :: F)) (by rw [show (pd.length : Int) + (k : Int) = ((pd ++ ns).length : Int) by simp; omega] : [(Value.iface 89 (Value.pointer (some ⟨bl, 0, none⟩))), (Value.int .i64 (po : Int)), (Value.int .i64 (page : Int)), (Value.int .i64 ((pd.length : Int) + (k : Int))), (Value.slice (some ⟨bb, 0, none⟩) (wm + page) (wm + page)), (Value.int .i64 (wm : Int))] = [(Value.iface 89 (Value.pointer (some ⟨bl, 0, none⟩))), (Value.int .i64 (po : Int)), (Value.int .i64 (page : Int)), (Value.int .i64 ((pd ++ ns).length : Int)), (Value.slice (some ⟨bb, 0, none⟩) (wm + page) (wm + page)), (Value.int .i64 (wm : Int))]) H20_
    exact ⟨_, [cl pw 142 [(Value.iface 89 (Value.pointer (some ⟨bl, 0, none⟩))), (Value.int .i64 (po : Int)), (Value.int .i64 (page : Int)), (Value.int .i64 ((pd ++ ns).length : Int)), (Value.slice (some ⟨bb, 0, none⟩) (wm + page) (wm + page)), (Value.int .i64 (wm : Int))], cl bb 5 (bytesV (pd ++ ns) ++ List.drop ns.length junk), cl bl 91 [V], sl 9 1 V ws.length (strs ws)], rfl, ⟨List.drop ns.length junk, rfl, rfl, rfl⟩, S18_, H21_⟩
  · have c6_fp : ¬ ((k : Int) + (pd.length : Int) ≤ (wm : Int)) := of_decide_eq_false c6_f
    omega

theorem quo_facts {L page q t : Nat} (h1 : 0 < page) (h2 : page < L) (hq : L / page = q) (ht : q * page = t) : t ≤ L ∧ L < t + page ∧ page ≤ t ∧ t % page = 0 := by
  subst hq; subst ht
  refine ⟨Nat.div_mul_le_self _ _, ?_, ?_, Nat.mul_mod_left _ _⟩
  · have := Nat.mod_lt L h1
    have e := Nat.div_add_mod L page
    rw [Nat.mul_comm] at e
    omega
  · have : 1 ≤ L / page := (Nat.one_le_div_iff h1).2 (by omega)
    calc page = 1 * page := (Nat.one_mul _).symm
      _ ≤ _ := Nat.mul_le_mul_right _ this

set_option maxHeartbeats 1000000 in
theorem kWrite (R : HP) (pw bb bl page wm po : Nat) (pd : List Int) (junk : List Value) (V : Value) (ws : List (List Int)) (p : Value) (k : Nat) (ns : List Int) (hP : RS R 1 p k (bytesV ns)) (h1 : 0 < page) (h2 : page ≤ 65536) (h3 : page ≤ wm) (h4 : wm ≤ 1048576) (h5 : po ≤ 1099511627776) (h6 : pd.length + junk.length = wm + page) (h7 : ws.length ≤ 800) (hk1 : k ≤ 1048576) (hinv : pd.length + (page - (po + pd.length) % page) ≤ wm + page) :
    Tri Try.prog 56 #[(Value.pointer (some ⟨pw, 0, none⟩)), p] R [cl pw 142 [(Value.iface 89 (Value.pointer (some ⟨bl, 0, none⟩))), (Value.int .i64 (po : Int)), (Value.int .i64 (page : Int)), (Value.int .i64 (pd.length : Int)), (Value.slice (some ⟨bb, 0, none⟩) (wm + page) (wm + page)), (Value.int .i64 (wm : Int))], cl bb 5 (bytesV pd ++ junk), cl bl 91 [V], sl 9 1 V ws.length (strs ws)] (fun v post => ∃ (nn : Int) (po' : Nat) (pd' : List Int) (junk' : List Value) (V' : Value) (ws' : List (List Int)), v = .tuple #[.int .i64 nn, .nilIface] ∧ post = [cl pw 142 [(Value.iface 89 (Value.pointer (some ⟨bl, 0, none⟩))), (Value.int .i64 (po' : Int)), (Value.int .i64 (page : Int)), (Value.int .i64 (pd'.length : Int)), (Value.slice (some ⟨bb, 0, none⟩) (wm + page) (wm + page)), (Value.int .i64 (wm : Int))], cl bb 5 (bytesV pd' ++ junk'), cl bl 91 [V'], sl 9 1 V' (List.length (ws ++ ws')) (strs (ws ++ ws'))] ∧ WOk page wm po pd ns po' pd' ws' ∧ (ns.length + pd.length ≤ wm → nn = k) ∧ pd'.length + junk'.length = wm + page) := by
  have hk := RS.blen hP
  obtain ⟨r, hr⟩ : ∃ r, (po + pd.length) % page = r := ⟨_, rfl⟩
  have hr2 : r < page := hr ▸ Nat.mod_lt _ h1
  obtain ⟨sk, hsk⟩ : ∃ s, page - r = s := ⟨_, rfl⟩
  rw [hr] at hinv
  refine Tri.into (n := 170) (al := [(Value.pointer (some ⟨pw, 0, none⟩)), p]) Try.func56 rfl Try.ntmps56 rfl rfl fun w F H => ?_
  replace H : Holds w (ro R :: cl pw 142 [(Value.iface 89 (Value.pointer (some ⟨bl, 0, none⟩))), (Value.int .i64 (po : Int)), (Value.int .i64 (page : Int)), (Value.int .i64 (pd.length : Int)), (Value.slice (some ⟨bb, 0, none⟩) (wm + page) (wm + page)), (Value.int .i64 (wm : Int))] :: cl bb 5 (bytesV pd ++ junk) :: cl bl 91 [V] :: sl 9 1 V ws.length (strs ws) :: F) := H
  refine C_seq (fun K1_ hK1_ => ?_)
  refine C_reg ?_
  refine S_list (T_val (v := (Value.int .i64 0)) (x_assign rfl) ?_)
  refine S_list (T_val (v := (Value.nilIface)) (x_assign rfl) ?_)
  refine wpList_nil ?_
  refine (X_then (hK1_ _ _ ?_))
  clear hK1_
  refine C_seq (fun K2_ hK2_ => ?_)
  refine C_seq (fun K3_ hK3_ => ?_)
  refine A_start (S := fun w => Rd pw [(Value.iface 89 (Value.pointer (some ⟨bl, 0, none⟩))), (Value.int .i64 (po : Int)), (Value.int .i64 (page : Int)), (Value.int .i64 (pd.length : Int)), (Value.slice (some ⟨bb, 0, none⟩) (wm + page) (wm + page)), (Value.int .i64 (wm : Int))] w ∧ Sub R (hp w)) (N := 12) foll rfl rfl ?_
  have H5_ : Holds w.drew (ro R :: cl pw 142 [(Value.iface 89 (Value.pointer (some ⟨bl, 0, none⟩))), (Value.int .i64 (po : Int)), (Value.int .i64 (page : Int)), (Value.int .i64 (pd.length : Int)), (Value.slice (some ⟨bb, 0, none⟩) (wm + page) (wm + page)), (Value.int .i64 (wm : Int))] :: cl bb 5 (bytesV pd ++ junk) :: cl bl 91 [V] :: sl 9 1 V ws.length (strs ws) :: F) := H
  refine A_take 0 (ls' := #[true, false, false, false, false, false, false, false, false, false, false, false]) (v := p) rfl (by kernel_rfl) (by kernel_rfl) (by kernel_rfl) (by kernel_rfl) (fun _ _ _ h => h) (fun w hS => x_move rfl) ⟨Holds.rd H5_ 1 rfl, Holds.ro_at H5_ 0 rfl⟩ ?_
  refine A_take 1 (ls' := #[true, true, false, false, false, false, false, false, false, false, false, false]) (v := (Value.int .i64 (k : Int))) rfl (by kernel_rfl) (by kernel_rfl) (by kernel_rfl) (by kernel_rfl) (fun _ _ _ h => h) (fun w hS => x_lenRS rfl hP Try.underlying25) ⟨Holds.rd H5_ 1 rfl, Holds.ro_at H5_ 0 rfl⟩ ?_
  refine A_take 2 (ls' := #[true, true, true, false, false, false, false, false, false, false, false, false]) (v := (Value.pointer (some ⟨pw, 0, none⟩))) rfl (by kernel_rfl) (by kernel_rfl) (by kernel_rfl) (by kernel_rfl) (fun _ _ _ h => h) (fun w hS => x_move rfl) ⟨Holds.rd H5_ 1 rfl, Holds.ro_at H5_ 0 rfl⟩ ?_
  refine A_take 3 (ls' := #[true, true, true, true, false, false, false, false, false, false, false, false]) (v := (Value.pointer (some ⟨pw, 0, none⟩))) rfl (by kernel_rfl) (by kernel_rfl) (by kernel_rfl) (by kernel_rfl) (fun _ _ _ h => h) (fun w hS => by kernel_rfl) ⟨Holds.rd H5_ 1 rfl, Holds.ro_at H5_ 0 rfl⟩ ?_
  refine A_take 4 (ls' := #[true, true, true, true, true, false, false, false, false, false, false, false]) (v := (Value.pointer (some ⟨pw, 3, none⟩))) rfl (by kernel_rfl) (by kernel_rfl) (by kernel_rfl) (by kernel_rfl) (fun _ _ _ h => h) (fun w hS => by kernel_rfl) ⟨Holds.rd H5_ 1 rfl, Holds.ro_at H5_ 0 rfl⟩ ?_
  refine A_take 5 (ls' := #[true, true, true, true, true, true, false, false, false, false, false, false]) (v := (Value.int .i64 (pd.length : Int))) rfl (by kernel_rfl) (by kernel_rfl) (by kernel_rfl) (by kernel_rfl) (fun _ _ _ h => h) (fun w hS => x_load1 rfl Try.underlying3 rfl (hS.1 3 (Value.int .i64 (pd.length : Int)) rfl)) ⟨Holds.rd H5_ 1 rfl, Holds.ro_at H5_ 0 rfl⟩ ?_
  refine A_take 6 (ls' := #[true, true, true, true, true, true, true, false, false, false, false, false]) (v := (Value.int .i64 ((k : Int) + (pd.length : Int)))) rfl (by kernel_rfl) (by kernel_rfl) (by kernel_rfl) (by kernel_rfl) (fun _ _ _ h => h) (fun w hS => x_bin rfl rfl (ib_add (IntWalk.i64_in _ (by omega)))) ⟨Holds.rd H5_ 1 rfl, Holds.ro_at H5_ 0 rfl⟩ ?_
  refine A_take 7 (ls' := #[true, true, true, true, true, true, true, true, false, false, false, false]) (v := (Value.pointer (some ⟨pw, 0, none⟩))) rfl (by kernel_rfl) (by kernel_rfl) (by kernel_rfl) (by kernel_rfl) (fun _ _ _ h => h) (fun w hS => x_move rfl) ⟨Holds.rd H5_ 1 rfl, Holds.ro_at H5_ 0 rfl⟩ ?_
  refine A_take 8 (ls' := #[true, true, true, true, true, true, true, true, true, false, false, false]) (v := (Value.pointer (some ⟨pw, 0, none⟩))) rfl (by kernel_rfl) (by kernel_rfl) (by kernel_rfl) (by kernel_rfl) (fun _ _ _ h => h) (fun w hS => by kernel_rfl) ⟨Holds.rd H5_ 1 rfl, Holds.ro_at H5_ 0 rfl⟩ ?_
  refine A_take 9 (ls' := #[true, true, true, true, true, true, true, true, true, true, false, false]) (v := (Value.pointer (some ⟨pw, 5, none⟩))) rfl (by kernel_rfl) (by kernel_rfl) (by kernel_rfl) (by kernel_rfl) (fun _ _ _ h => h) (fun w hS => by kernel_rfl) ⟨Holds.rd H5_ 1 rfl, Holds.ro_at H5_ 0 rfl⟩ ?_
  refine A_take 10 (ls' := #[true, true, true, true, true, true, true, true, true, true, true, false]) (v := (Value.int .i64 (wm : Int))) rfl (by kernel_rfl) (by kernel_rfl) (by kernel_rfl) (by kernel_rfl) (fun _ _ _ h => h) (fun w hS => x_load1 rfl Try.underlying3 rfl (hS.1 5 (Value.int .i64 (wm : Int)) rfl)) ⟨Holds.rd H5_ 1 rfl, Holds.ro_at H5_ 0 rfl⟩ ?_
  refine A_take 11 (ls' := #[true, true, true, true, true, true, true, true, true, true, true, true]) (v := (Value.bool (decide ((k : Int) + (pd.length : Int) ≤ (wm : Int))))) rfl (by kernel_rfl) (by kernel_rfl) (by kernel_rfl) (by kernel_rfl) (fun _ _ _ h => h) (fun w hS => x_bin rfl rfl rfl) ⟨Holds.rd H5_ 1 rfl, Holds.ro_at H5_ 0 rfl⟩ ?_
  refine A_done (by kernel_rfl) ?_
  refine (X_then (hK3_ _ _ ?_))
  clear hK3_
  refine C_cond (b := decide ((k : Int) + (pd.length : Int) ≤ (wm : Int))) rfl (fun c6_t => ?_) (fun c6_f => ?_)
  · have c6_tp : (k : Int) + (pd.length : Int) ≤ (wm : Int) := of_decide_eq_true c6_t
    refine C_seq (fun K7_ hK7_ => ?_)
    refine A_start (S := fun w => Rd pw [(Value.iface 89 (Value.pointer (some ⟨bl, 0, none⟩))), (Value.int .i64 (po : Int)), (Value.int .i64 (page : Int)), (Value.int .i64 (pd.length : Int)), (Value.slice (some ⟨bb, 0, none⟩) (wm + page) (wm + page)), (Value.int .i64 (wm : Int))] w ∧ Sub R (hp w)) (N := 11) foll rfl rfl ?_
    have H9_ : Holds w.drew.drew (ro R :: cl pw 142 [(Value.iface 89 (Value.pointer (some ⟨bl, 0, none⟩))), (Value.int .i64 (po : Int)), (Value.int .i64 (page : Int)), (Value.int .i64 (pd.length : Int)), (Value.slice (some ⟨bb, 0, none⟩) (wm + page) (wm + page)), (Value.int .i64 (wm : Int))] :: cl bb 5 (bytesV pd ++ junk) :: cl bl 91 [V] :: sl 9 1 V ws.length (strs ws) :: F) := H5_
    refine A_take 0 (ls' := #[true, false, false, false, false, false, false, false, false, false, false]) (v := (Value.pointer (some ⟨pw, 0, none⟩))) rfl (by kernel_rfl) (by kernel_rfl) (by kernel_rfl) (by kernel_rfl) (fun _ _ _ h => h) (fun w hS => x_move rfl) ⟨Holds.rd H9_ 1 rfl, Holds.ro_at H9_ 0 rfl⟩ ?_
    refine A_take 1 (ls' := #[true, true, false, false, false, false, false, false, false, false, false]) (v := (Value.pointer (some ⟨pw, 0, none⟩))) rfl (by kernel_rfl) (by kernel_rfl) (by kernel_rfl) (by kernel_rfl) (fun _ _ _ h => h) (fun w hS => by kernel_rfl) ⟨Holds.rd H9_ 1 rfl, Holds.ro_at H9_ 0 rfl⟩ ?_
    refine A_take 2 (ls' := #[true, true, true, false, false, false, false, false, false, false, false]) (v := (Value.pointer (some ⟨pw, 4, none⟩))) rfl (by kernel_rfl) (by kernel_rfl) (by kernel_rfl) (by kernel_rfl) (fun _ _ _ h => h) (fun w hS => by kernel_rfl) ⟨Holds.rd H9_ 1 rfl, Holds.ro_at H9_ 0 rfl⟩ ?_
    refine A_take 3 (ls' := #[true, true, true, true, false, false, false, false, false, false, false]) (v := (Value.slice (some ⟨bb, 0, none⟩) (wm + page) (wm + page))) rfl (by kernel_rfl) (by kernel_rfl) (by kernel_rfl) (by kernel_rfl) (fun _ _ _ h => h) (fun w hS => x_load1 rfl Try.underlying25 rfl (hS.1 4 (Value.slice (some ⟨bb, 0, none⟩) (wm + page) (wm + page)) rfl)) ⟨Holds.rd H9_ 1 rfl, Holds.ro_at H9_ 0 rfl⟩ ?_
    refine A_take 4 (ls' := #[true, true, true, true, true, false, false, false, false, false, false]) (v := (Value.pointer (some ⟨pw, 0, none⟩))) rfl (by kernel_rfl) (by kernel_rfl) (by kernel_rfl) (by kernel_rfl) (fun _ _ _ h => h) (fun w hS => x_move rfl) ⟨Holds.rd H9_ 1 rfl, Holds.ro_at H9_ 0 rfl⟩ ?_
    refine A_take 5 (ls' := #[true, true, true, true, true, true, false, false, false, false, false]) (v := (Value.pointer (some ⟨pw, 0, none⟩))) rfl (by kernel_rfl) (by kernel_rfl) (by kernel_rfl) (by kernel_rfl) (fun _ _ _ h => h) (fun w hS => by kernel_rfl) ⟨Holds.rd H9_ 1 rfl, Holds.ro_at H9_ 0 rfl⟩ ?_
    refine A_take 6 (ls' := #[true, true, true, true, true, true, true, false, false, false, false]) (v := (Value.pointer (some ⟨pw, 3, none⟩))) rfl (by kernel_rfl) (by kernel_rfl) (by kernel_rfl) (by kernel_rfl) (fun _ _ _ h => h) (fun w hS => by kernel_rfl) ⟨Holds.rd H9_ 1 rfl, Holds.ro_at H9_ 0 rfl⟩ ?_
    refine A_take 7 (ls' := #[true, true, true, true, true, true, true, true, false, false, false]) (v := (Value.int .i64 (pd.length : Int))) rfl (by kernel_rfl) (by kernel_rfl) (by kernel_rfl) (by kernel_rfl) (fun _ _ _ h => h) (fun w hS => x_load1 rfl Try.underlying3 rfl (hS.1 3 (Value.int .i64 (pd.length : Int)) rfl)) ⟨Holds.rd H9_ 1 rfl, Holds.ro_at H9_ 0 rfl⟩ ?_
    refine A_take 8 (ls' := #[true, true, true, true, true, true, true, true, true, false, false]) (v := (Value.slice (some ⟨bb, pd.length, none⟩) ((wm + page) - pd.length) ((wm + page) - pd.length))) rfl (by kernel_rfl) (by kernel_rfl) (by kernel_rfl) (by kernel_rfl) (fun _ _ _ h => h) (fun w hS => x_slice (l := pd.length) (h := (wm + page)) rfl Try.underlying25 z5 rfl ⟨_, _, rfl, by omega, by omega, by omega⟩ ((by rw [if_neg (by omega)]; first | rfl | simp [add_mk]))) ⟨Holds.rd H9_ 1 rfl, Holds.ro_at H9_ 0 rfl⟩ ?_
    refine A_take 9 (ls' := #[true, true, true, true, true, true, true, true, true, true, false]) (v := p) rfl (by kernel_rfl) (by kernel_rfl) (by kernel_rfl) (by kernel_rfl) (fun _ _ _ h => h) (fun w hS => x_move rfl) ⟨Holds.rd H9_ 1 rfl, Holds.ro_at H9_ 0 rfl⟩ ?_
    refine A_ready (i := 10) (rs := []) (by kernel_rfl) ?_
    refine AllR.cons ?_ AllR.nil
    refine A_op (ls' := #[true, true, true, true, true, true, true, true, true, true, true]) rfl (by kernel_rfl) (T_copy rfl rfl Try.underlying25 z5 H9_ 2 rfl hP (Holds.ro_at H9_ 0 rfl) (by omega) (by simp only [List.length_append, bytesV_len]; omega) (one_bytes _) ?_)
    intro w10_ S12_ H11_
    replace H11_ : Holds w10_ (ro R :: cl pw 142 [(Value.iface 89 (Value.pointer (some ⟨bl, 0, none⟩))), (Value.int .i64 (po : Int)), (Value.int .i64 (page : Int)), (Value.int .i64 (pd.length : Int)), (Value.slice (some ⟨bb, 0, none⟩) (wm + page) (wm + page)), (Value.int .i64 (wm : Int))] :: cl bb 5 (List.take pd.length (bytesV pd ++ junk) ++ (bytesV ns) ++ List.drop (pd.length + List.length (bytesV ns)) (bytesV pd ++ junk)) :: cl bl 91 [V] :: sl 9 1 V ws.length (strs ws) :: F) := H11_
    have S13_ := Same.trans (Same.trans (Same.trans (Same.refl w) (Same.drew _)) (Same.drew _)) S12_
    refine ⟨⟨Holds.rd H11_ 1 rfl, Holds.ro_at H11_ 0 rfl⟩, ?_⟩
    refine A_done (by kernel_rfl) ?_
    refine (X_then (hK7_ _ _ ?_))
    clear hK7_
    refine C_seq (fun K14_ hK14_ => ?_)
    refine C_reg ?_
    refine S_list (T_val (v := (Value.pointer (some ⟨pw, 0, none⟩))) (x_move rfl) ?_)
    refine S_list (T_val (v := (Value.pointer (some ⟨pw, 0, none⟩))) (by kernel_rfl) ?_)
    refine S_list (T_val (v := (Value.pointer (some ⟨pw, 3, none⟩))) (by kernel_rfl) ?_)
    refine S_list (T_val (v := (Value.int .i64 (pd.length : Int))) (x_load1 rfl Try.underlying3 rfl ((Holds.rd H11_ 1 rfl) 3 (Value.int .i64 (pd.length : Int)) rfl)) ?_)
    refine S_list (T_val (v := p) (x_move rfl) ?_)
    refine S_list (T_val (v := (Value.int .i64 (k : Int))) (x_lenRS rfl hP Try.underlying25) ?_)
    refine S_list (T_val (v := (Value.int .i64 ((pd.length : Int) + (k : Int)))) (x_bin rfl rfl (ib_add (IntWalk.i64_in _ (by omega)))) ?_)
    refine S_list (T_val (v := (Value.pointer (some ⟨pw, 0, none⟩))) (by kernel_rfl) ?_)
    refine S_list (T_val (v := (Value.pointer (some ⟨pw, 3, none⟩))) (by kernel_rfl) ?_)
    refine S_list0 (T_store1 (v := (Value.int .i64 ((pd.length : Int) + (k : Int)))) rfl rfl z3 rfl H11_ 1 rfl (Nat.le_of_ble_eq_true (by rfl)) ?_)
    intro w15_ S17_ H16_
    replace H16_ : Holds w15_ (ro R :: cl pw 142 [(Value.iface 89 (Value.pointer (some ⟨bl, 0, none⟩))), (Value.int .i64 (po : Int)), (Value.int .i64 (page : Int)), (Value.int .i64 ((pd.length : Int) + (k : Int))), (Value.slice (some ⟨bb, 0, none⟩) (wm + page) (wm + page)), (Value.int .i64 (wm : Int))] :: cl bb 5 (List.take pd.length (bytesV pd ++ junk) ++ (bytesV ns) ++ List.drop (pd.length + List.length (bytesV ns)) (bytesV pd ++ junk)) :: cl bl 91 [V] :: sl 9 1 V ws.length (strs ws) :: F) := H16_
    have S18_ := Same.trans S13_ S17_
    refine wpList_nil ?_
    refine (X_then (hK14_ _ _ ?_))
    clear hK14_
    refine C_seq (fun K19_ hK19_ => ?_)
    refine C_reg ?_
    refine S_list (T_val (v := p) (x_move rfl) ?_)
    refine S_list (T_val (v := (Value.int .i64 (k : Int))) (x_lenRS rfl hP Try.underlying25) ?_)
    refine S_list (T_val (v := (Value.int .i64 (k : Int))) (x_assign rfl) ?_)
    refine S_list (T_val (v := (Value.nilIface)) (x_assign rfl) ?_)
    refine wpList_nil ?_
    refine (X_then (hK19_ _ _ ?_))
    clear hK19_
    refine C_ret (X_thenR ?_)
    refine R_any (v := (Value.tuple #[(Value.int .i64 (k : Int)), (Value.nilIface)])) (run_results2 rfl rfl rfl) ?_
    have H20_ : Holds w15_ (ro R :: cl pw 142 [(Value.iface 89 (Value.pointer (some ⟨bl, 0, none⟩))), (Value.int .i64 (po : Int)), (Value.int .i64 (page : Int)), (Value.int .i64 ((pd.length : Int) + (k : Int))), (Value.slice (some ⟨bb, 0, none⟩) (wm + page) (wm + page)), (Value.int .i64 (wm : Int))] :: cl bb 5 (List.take pd.length (bytesV pd ++ junk) ++ (bytesV ns) ++ List.drop (pd.length + List.length (bytesV ns)) (bytesV pd ++ junk)) :: cl bl 91 [V] :: sl 9 1 V (List.length (ws ++ [])) (strs (ws ++ [])) :: F) := cast2 (P := fun (c__ : List Value) (k__ : Nat) => Holds w15_ (ro R :: cl pw 142 [(Value.iface 89 (Value.pointer (some ⟨bl, 0, none⟩))), (Value.int .i64 (po : Int)), (Value.int .i64 (page : Int)), (Value.int .i64 ((pd.length : Int) + (k : Int))), (Value.slice (some ⟨bb, 0, none⟩) (wm + page) (wm + page)), (Value.int .i64 (wm : Int))] :: cl bb 5 (List.take pd.length (bytesV pd ++ junk) ++ (bytesV ns) ++ List.drop (pd.length + List.length (bytesV ns)) (bytesV pd ++ junk)) :: cl bl 91 [V] :: sl 9 1 V k__ c__ :: F)) (by simp : strs ws = strs (ws ++ [])) (by simp : ws.length = List.length (ws ++ [])) H16_
    have H21_ : Holds w15_ (ro R :: cl pw 142 [(Value.iface 89 (Value.pointer (some ⟨bl, 0, none⟩))), (Value.int .i64 (po : Int)), (Value.int .i64 (page : Int)), (Value.int .i64 ((pd.length : Int) + (k : Int))), (Value.slice (some ⟨bb, 0, none⟩) (wm + page) (wm + page)), (Value.int .i64 (wm : Int))] :: cl bb 5 (bytesV (pd ++ ns) ++ List.drop ns.length junk) :: cl bl 91 [V] :: sl 9 1 V (List.length (ws ++ [])) (strs (ws ++ [])) :: F) := cast1 (P := fun (c__ : List Value) => Holds w15_ (ro R :: cl pw 142 [(Value.iface 89 (Value.pointer (some ⟨bl, 0, none⟩))), (Value.int .i64 (po : Int)), (Value.int .i64 (page : Int)), (Value.int .i64 ((pd.length : Int) + (k : Int))), (Value.slice (some ⟨bb, 0, none⟩) (wm + page) (wm + page)), (Value.int .i64 (wm : Int))] :: cl bb 5 c__ :: cl bl 91 [V] :: sl 9 1 V (List.length (ws ++ [])) (strs (ws ++ [])) :: F)) (buf_put pd ns junk : List.take pd.length (bytesV pd ++ junk) ++ (bytesV ns) ++ List.drop (pd.length + List.length (bytesV ns)) (bytesV pd ++ junk) = bytesV (pd ++ ns) ++ List.drop ns.length junk) H20_
    have H22_ : Holds w15_ (ro R :: cl pw 142 [(Value.iface 89 (Value.pointer (some ⟨bl, 0, none⟩))), (Value.int .i64 (po : Int)), (Value.int .i64 (page : Int)), (Value.int .i64 ((pd ++ ns).length : Int)), (Value.slice (some ⟨bb, 0, none⟩) (wm + page) (wm + page)), (Value.int .i64 (wm : Int))] :: cl bb 5 (bytesV (pd ++ ns) ++ List.drop ns.length junk) :: cl bl 91 [V] :: sl 9 1 V (List.length (ws ++ [])) (strs (ws ++ [])) :: F) := cast1 (P := fun (c__ : List Value) => Holds w15_ (ro R :: cl pw 142 c__ :: cl bb 5 (bytesV (pd ++ ns) ++ List.drop ns.length junk) :: cl bl 91 [V] :: sl 9 1 V (List.length (ws ++ [])) (strs (ws ++ [])) :: F)) (by rw [show (pd.length : Int) + (k : Int) = ((pd ++ ns).length : Int) by simp; omega] : [(Value.iface 89 (Value.pointer (some ⟨bl, 0, none⟩))), (Value.int .i64 (po : Int)), (Value.int .i64 (page : Int)), (Value.int .i64 ((pd.length : Int) + (k : Int))), (Value.slice (some ⟨bb, 0, none⟩) (wm + page) (wm + page)), (Value.int .i64 (wm : Int))] = [(Value.iface 89 (Value.pointer (some ⟨bl, 0, none⟩))), (Value.int .i64 (po : Int)), (Value.int .i64 (page : Int)), (Value.int .i64 ((pd ++ ns).length : Int)), (Value.slice (some ⟨bb, 0, none⟩) (wm + page) (wm + page)), (Value.int .i64 (wm : Int))]) H21_
    exact ⟨_, [cl pw 142 [(Value.iface 89 (Value.pointer (some ⟨bl, 0, none⟩))), (Value.int .i64 (po : Int)), (Value.int .i64 (page : Int)), (Value.int .i64 ((pd ++ ns).length : Int)), (Value.slice (some ⟨bb, 0, none⟩) (wm + page) (wm + page)), (Value.int .i64 (wm : Int))], cl bb 5 (bytesV (pd ++ ns) ++ List.drop ns.length junk), cl bl 91 [V], sl 9 1 V (List.length (ws ++ [])) (strs (ws ++ []))], rfl, ⟨_, po, pd ++ ns, List.drop ns.length junk, V, [], rfl, rfl, WOk.fits (by omega) (by omega), (fun _ => rfl), by rw [List.length_append, List.length_drop]; omega⟩, S18_, H22_⟩
  · have c6_fp : ¬ ((k : Int) + (pd.length : Int) ≤ (wm : Int)) := of_decide_eq_false c6_f
    refine C_skip (X_then (hK2_ _ _ ?_))
    clear hK2_
    refine C_seq (fun K23_ hK23_ => ?_)
    refine A_start (S := fun w => Rd pw [(Value.iface 89 (Value.pointer (some ⟨bl, 0, none⟩))), (Value.int .i64 (po : Int)), (Value.int .i64 (page : Int)), (Value.int .i64 (pd.length : Int)), (Value.slice (some ⟨bb, 0, none⟩) (wm + page) (wm + page)), (Value.int .i64 (wm : Int))] w ∧ Sub R (hp w)) (N := 20) foll rfl rfl ?_
    have H25_ : Holds w.drew.drew (ro R :: cl pw 142 [(Value.iface 89 (Value.pointer (some ⟨bl, 0, none⟩))), (Value.int .i64 (po : Int)), (Value.int .i64 (page : Int)), (Value.int .i64 (pd.length : Int)), (Value.slice (some ⟨bb, 0, none⟩) (wm + page) (wm + page)), (Value.int .i64 (wm : Int))] :: cl bb 5 (bytesV pd ++ junk) :: cl bl 91 [V] :: sl 9 1 V ws.length (strs ws) :: F) := H5_
    refine A_take 0 (ls' := #[true, false, false, false, false, false, false, false, false, false, false, false, false, false, false, false, false, false, false, false]) (v := (Value.pointer (some ⟨pw, 0, none⟩))) rfl (by kernel_rfl) (by kernel_rfl) (by kernel_rfl) (by kernel_rfl) (fun _ _ _ h => h) (fun w hS => x_move rfl) ⟨Holds.rd H25_ 1 rfl, Holds.ro_at H25_ 0 rfl⟩ ?_
    refine A_take 1 (ls' := #[true, true, false, false, false, false, false, false, false, false, false, false, false, false, false, false, false, false, false, false]) (v := (Value.pointer (some ⟨pw, 0, none⟩))) rfl (by kernel_rfl) (by kernel_rfl) (by kernel_rfl) (by kernel_rfl) (fun _ _ _ h => h) (fun w hS => by kernel_rfl) ⟨Holds.rd H25_ 1 rfl, Holds.ro_at H25_ 0 rfl⟩ ?_
    refine A_take 2 (ls' := #[true, true, true, false, false, false, false, false, false, false, false, false, false, false, false, false, false, false, false, false]) (v := (Value.pointer (some ⟨pw, 2, none⟩))) rfl (by kernel_rfl) (by kernel_rfl) (by kernel_rfl) (by kernel_rfl) (fun _ _ _ h => h) (fun w hS => by kernel_rfl) ⟨Holds.rd H25_ 1 rfl, Holds.ro_at H25_ 0 rfl⟩ ?_
    refine A_take 3 (ls' := #[true, true, true, true, false, false, false, false, false, false, false, false, false, false, false, false, false, false, false, false]) (v := (Value.int .i64 (page : Int))) rfl (by kernel_rfl) (by kernel_rfl) (by kernel_rfl) (by kernel_rfl) (fun _ _ _ h => h) (fun w hS => x_load1 rfl Try.underlying3 rfl (hS.1 2 (Value.int .i64 (page : Int)) rfl)) ⟨Holds.rd H25_ 1 rfl, Holds.ro_at H25_ 0 rfl⟩ ?_
    refine A_take 4 (ls' := #[true, true, true, true, true, false, false, false, false, false, false, false, false, false, false, false, false, false, false, false]) (v := (Value.pointer (some ⟨pw, 0, none⟩))) rfl (by kernel_rfl) (by kernel_rfl) (by kernel_rfl) (by kernel_rfl) (fun _ _ _ h => h) (fun w hS => x_move rfl) ⟨Holds.rd H25_ 1 rfl, Holds.ro_at H25_ 0 rfl⟩ ?_
    refine A_take 5 (ls' := #[true, true, true, true, true, true, false, false, false, false, false, false, false, false, false, false, false, false, false, false]) (v := (Value.pointer (some ⟨pw, 0, none⟩))) rfl (by kernel_rfl) (by kernel_rfl) (by kernel_rfl) (by kernel_rfl) (fun _ _ _ h => h) (fun w hS => by kernel_rfl) ⟨Holds.rd H25_ 1 rfl, Holds.ro_at H25_ 0 rfl⟩ ?_
    refine A_take 6 (ls' := #[true, true, true, true, true, true, true, false, false, false, false, false, false, false, false, false, false, false, false, false]) (v := (Value.pointer (some ⟨pw, 1, none⟩))) rfl (by kernel_rfl) (by kernel_rfl) (by kernel_rfl) (by kernel_rfl) (fun _ _ _ h => h) (fun w hS => by kernel_rfl) ⟨Holds.rd H25_ 1 rfl, Holds.ro_at H25_ 0 rfl⟩ ?_
    refine A_take 7 (ls' := #[true, true, true, true, true, true, true, true, false, false, false, false, false, false, false, false, false, false, false, false]) (v := (Value.int .i64 (po : Int))) rfl (by kernel_rfl) (by kernel_rfl) (by kernel_rfl) (by kernel_rfl) (fun _ _ _ h => h) (fun w hS => x_load1 rfl Try.underlying3 rfl (hS.1 1 (Value.int .i64 (po : Int)) rfl)) ⟨Holds.rd H25_ 1 rfl, Holds.ro_at H25_ 0 rfl⟩ ?_
    refine A_take 8 (ls' := #[true, true, true, true, true, true, true, true, true, false, false, false, false, false, false, false, false, false, false, false]) (v := (Value.pointer (some ⟨pw, 0, none⟩))) rfl (by kernel_rfl) (by kernel_rfl) (by kernel_rfl) (by kernel_rfl) (fun _ _ _ h => h) (fun w hS => x_move rfl) ⟨Holds.rd H25_ 1 rfl, Holds.ro_at H25_ 0 rfl⟩ ?_
    refine A_take 9 (ls' := #[true, true, true, true, true, true, true, true, true, true, false, false, false, false, false, false, false, false, false, false]) (v := (Value.pointer (some ⟨pw, 0, none⟩))) rfl (by kernel_rfl) (by kernel_rfl) (by kernel_rfl) (by kernel_rfl) (fun _ _ _ h => h) (fun w hS => by kernel_rfl) ⟨Holds.rd H25_ 1 rfl, Holds.ro_at H25_ 0 rfl⟩ ?_
    refine A_take 10 (ls' := #[true, true, true, true, true, true, true, true, true, true, true, false, false, false, false, false, false, false, false, false]) (v := (Value.pointer (some ⟨pw, 3, none⟩))) rfl (by kernel_rfl) (by kernel_rfl) (by kernel_rfl) (by kernel_rfl) (fun _ _ _ h => h) (fun w hS => by kernel_rfl) ⟨Holds.rd H25_ 1 rfl, Holds.ro_at H25_ 0 rfl⟩ ?_
    refine A_take 11 (ls' := #[true, true, true, true, true, true, true, true, true, true, true, true, false, false, false, false, false, false, false, false]) (v := (Value.int .i64 (pd.length : Int))) rfl (by kernel_rfl) (by kernel_rfl) (by kernel_rfl) (by kernel_rfl) (fun _ _ _ h => h) (fun w hS => x_load1 rfl Try.underlying3 rfl (hS.1 3 (Value.int .i64 (pd.length : Int)) rfl)) ⟨Holds.rd H25_ 1 rfl, Holds.ro_at H25_ 0 rfl⟩ ?_
    refine A_take 12 (ls' := #[true, true, true, true, true, true, true, true, true, true, true, true, true, false, false, false, false, false, false, false]) (v := (Value.int .i64 ((po : Int) + (pd.length : Int)))) rfl (by kernel_rfl) (by kernel_rfl) (by kernel_rfl) (by kernel_rfl) (fun _ _ _ h => h) (fun w hS => x_bin rfl rfl (ib_add (IntWalk.i64_in _ (by omega)))) ⟨Holds.rd H25_ 1 rfl, Holds.ro_at H25_ 0 rfl⟩ ?_
    refine A_take 13 (ls' := #[true, true, true, true, true, true, true, true, true, true, true, true, true, true, false, false, false, false, false, false]) (v := (Value.pointer (some ⟨pw, 0, none⟩))) rfl (by kernel_rfl) (by kernel_rfl) (by kernel_rfl) (by kernel_rfl) (fun _ _ _ h => h) (fun w hS => x_move rfl) ⟨Holds.rd H25_ 1 rfl, Holds.ro_at H25_ 0 rfl⟩ ?_
    refine A_take 14 (ls' := #[true, true, true, true, true, true, true, true, true, true, true, true, true, true, true, false, false, false, false, false]) (v := (Value.pointer (some ⟨pw, 0, none⟩))) rfl (by kernel_rfl) (by kernel_rfl) (by kernel_rfl) (by kernel_rfl) (fun _ _ _ h => h) (fun w hS => by kernel_rfl) ⟨Holds.rd H25_ 1 rfl, Holds.ro_at H25_ 0 rfl⟩ ?_
    refine A_take 15 (ls' := #[true, true, true, true, true, true, true, true, true, true, true, true, true, true, true, true, false, false, false, false]) (v := (Value.pointer (some ⟨pw, 2, none⟩))) rfl (by kernel_rfl) (by kernel_rfl) (by kernel_rfl) (by kernel_rfl) (fun _ _ _ h => h) (fun w hS => by kernel_rfl) ⟨Holds.rd H25_ 1 rfl, Holds.ro_at H25_ 0 rfl⟩ ?_
    refine A_take 16 (ls' := #[true, true, true, true, true, true, true, true, true, true, true, true, true, true, true, true, true, false, false, false]) (v := (Value.int .i64 (page : Int))) rfl (by kernel_rfl) (by kernel_rfl) (by kernel_rfl) (by kernel_rfl) (fun _ _ _ h => h) (fun w hS => x_load1 rfl Try.underlying3 rfl (hS.1 2 (Value.int .i64 (page : Int)) rfl)) ⟨Holds.rd H25_ 1 rfl, Holds.ro_at H25_ 0 rfl⟩ ?_
    refine A_take 17 (ls' := #[true, true, true, true, true, true, true, true, true, true, true, true, true, true, true, true, true, true, false, false]) (v := (Value.int .i64 (r : Int))) rfl (by kernel_rfl) (by kernel_rfl) (by kernel_rfl) (by kernel_rfl) (fun _ _ _ h => h) (fun w hS => x_bin rfl rfl (ib_remN (x := po + pd.length) (y := page) (r := r) (by omega) (by omega) (by omega) (by omega) hr)) ⟨Holds.rd H25_ 1 rfl, Holds.ro_at H25_ 0 rfl⟩ ?_
    refine A_take 18 (ls' := #[true, true, true, true, true, true, true, true, true, true, true, true, true, true, true, true, true, true, true, false]) (v := (Value.int .i64 (sk : Int))) rfl (by kernel_rfl) (by kernel_rfl) (by kernel_rfl) (by kernel_rfl) (fun _ _ _ h => h) (fun w hS => x_bin rfl rfl (ib_subN (x := page) (y := r) (r := sk) (by omega) (by omega) (by omega) (by omega) hsk)) ⟨Holds.rd H25_ 1 rfl, Holds.ro_at H25_ 0 rfl⟩ ?_
    refine A_take 19 (ls' := #[true, true, true, true, true, true, true, true, true, true, true, true, true, true, true, true, true, true, true, true]) (v := (Value.int .i64 (sk : Int))) rfl (by kernel_rfl) (by kernel_rfl) (by kernel_rfl) (by kernel_rfl) (fun _ _ _ h => h) (fun w hS => x_assign rfl) ⟨Holds.rd H25_ 1 rfl, Holds.ro_at H25_ 0 rfl⟩ ?_
    refine A_done (by kernel_rfl) ?_
    refine (X_then (hK23_ _ _ ?_))
    clear hK23_
    refine C_seq (fun K26_ hK26_ => ?_)
    refine C_seq (fun K27_ hK27_ => ?_)
    refine C_reg ?_
    refine S_list (T_val (v := (Value.int .i64 (sk : Int))) (x_move rfl) ?_)
    refine S_list (T_val (v := (Value.pointer (some ⟨pw, 0, none⟩))) (x_move rfl) ?_)
    refine S_list (T_val (v := (Value.pointer (some ⟨pw, 0, none⟩))) (by kernel_rfl) ?_)
    refine S_list (T_val (v := (Value.pointer (some ⟨pw, 2, none⟩))) (by kernel_rfl) ?_)
    refine S_list (T_val (v := (Value.int .i64 (page : Int))) (x_load1 rfl Try.underlying3 rfl ((Holds.rd H25_ 1 rfl) 2 (Value.int .i64 (page : Int)) rfl)) ?_)
    refine S_list (T_val (v := (Value.bool (decide ((sk : Int) ≠ (page : Int))))) (x_bin rfl rfl rfl) ?_)
    refine wpList_nil ?_
    refine (X_then (hK27_ _ _ ?_))
    clear hK27_
    refine C_cond (b := decide ((sk : Int) ≠ (page : Int))) rfl (fun c28_t => ?_) (fun c28_f => ?_)
    · have c28_tp : (sk : Int) ≠ (page : Int) := of_decide_eq_true c28_t
      refine C_seq (fun K29_ hK29_ => ?_)
      refine C_reg ?_
      refine S_list (T_val (v := (Value.int .i64 (sk : Int))) (x_move rfl) ?_)
      refine S_list (T_val (v := p) (x_move rfl) ?_)
      refine S_list (T_val (v := (Value.int .i64 (k : Int))) (x_lenRS rfl hP Try.underlying25) ?_)
      refine S_list (T_val (v := (Value.bool (decide ((k : Int) < (sk : Int))))) (x_bin rfl rfl rfl) ?_)
      refine S_list (T_val (v := (Value.bool (decide ((k : Int) < (sk : Int))))) (x_assign rfl) ?_)
      refine wpList_nil ?_
      refine (X_then (hK29_ _ _ ?_))
      clear hK29_
      refine C_seq (fun K30_ hK30_ => ?_)
      refine C_seq (fun K31_ hK31_ => ?_)
      refine C_reg ?_
      refine S_list (T_val (v := (Value.bool (decide ((k : Int) < (sk : Int))))) (x_move rfl) ?_)
      refine wpList_nil ?_
      refine (X_then (hK31_ _ _ ?_))
      clear hK31_
      refine C_cond (b := decide ((k : Int) < (sk : Int))) rfl (fun c32_t => ?_) (fun c32_f => ?_)
      · have c32_tp : (k : Int) < (sk : Int) := of_decide_eq_true c32_t
        refine C_reg ?_
        refine S_list (T_val (v := p) (x_move rfl) ?_)
        refine S_list (T_val (v := (Value.int .i64 (k : Int))) (x_lenRS rfl hP Try.underlying25) ?_)
        refine S_list (T_val (v := (Value.int .i64 (k : Int))) (x_assign rfl) ?_)
        refine wpList_nil ?_
        refine (X_then (hK30_ _ _ ?_))
        clear hK30_
        refine C_seq (fun K33_ hK33_ => ?_)
        refine A_start (S := fun w => Rd pw [(Value.iface 89 (Value.pointer (some ⟨bl, 0, none⟩))), (Value.int .i64 (po : Int)), (Value.int .i64 (page : Int)), (Value.int .i64 (pd.length : Int)), (Value.slice (some ⟨bb, 0, none⟩) (wm + page) (wm + page)), (Value.int .i64 (wm : Int))] w ∧ Sub R (hp w)) (N := 13) foll rfl rfl ?_
        have H35_ : Holds w.drew.drew.drew (ro R :: cl pw 142 [(Value.iface 89 (Value.pointer (some ⟨bl, 0, none⟩))), (Value.int .i64 (po : Int)), (Value.int .i64 (page : Int)), (Value.int .i64 (pd.length : Int)), (Value.slice (some ⟨bb, 0, none⟩) (wm + page) (wm + page)), (Value.int .i64 (wm : Int))] :: cl bb 5 (bytesV pd ++ junk) :: cl bl 91 [V] :: sl 9 1 V ws.length (strs ws) :: F) := H25_
        refine A_take 0 (ls' := #[true, false, false, false, false, false, false, false, false, false, false, false, false]) (v := (Value.pointer (some ⟨pw, 0, none⟩))) rfl (by kernel_rfl) (by kernel_rfl) (by kernel_rfl) (by kernel_rfl) (fun _ _ _ h => h) (fun w hS => x_move rfl) ⟨Holds.rd H35_ 1 rfl, Holds.ro_at H35_ 0 rfl⟩ ?_
        refine A_take 1 (ls' := #[true, true, false, false, false, false, false, false, false, false, false, false, false]) (v := (Value.pointer (some ⟨pw, 0, none⟩))) rfl (by kernel_rfl) (by kernel_rfl) (by kernel_rfl) (by kernel_rfl) (fun _ _ _ h => h) (fun w hS => by kernel_rfl) ⟨Holds.rd H35_ 1 rfl, Holds.ro_at H35_ 0 rfl⟩ ?_
        refine A_take 2 (ls' := #[true, true, true, false, false, false, false, false, false, false, false, false, false]) (v := (Value.pointer (some ⟨pw, 4, none⟩))) rfl (by kernel_rfl) (by kernel_rfl) (by kernel_rfl) (by kernel_rfl) (fun _ _ _ h => h) (fun w hS => by kernel_rfl) ⟨Holds.rd H35_ 1 rfl, Holds.ro_at H35_ 0 rfl⟩ ?_
        refine A_take 3 (ls' := #[true, true, true, true, false, false, false, false, false, false, false, false, false]) (v := (Value.slice (some ⟨bb, 0, none⟩) (wm + page) (wm + page))) rfl (by kernel_rfl) (by kernel_rfl) (by kernel_rfl) (by kernel_rfl) (fun _ _ _ h => h) (fun w hS => x_load1 rfl Try.underlying25 rfl (hS.1 4 (Value.slice (some ⟨bb, 0, none⟩) (wm + page) (wm + page)) rfl)) ⟨Holds.rd H35_ 1 rfl, Holds.ro_at H35_ 0 rfl⟩ ?_
        refine A_take 4 (ls' := #[true, true, true, true, true, false, false, false, false, false, false, false, false]) (v := (Value.pointer (some ⟨pw, 0, none⟩))) rfl (by kernel_rfl) (by kernel_rfl) (by kernel_rfl) (by kernel_rfl) (fun _ _ _ h => h) (fun w hS => x_move rfl) ⟨Holds.rd H35_ 1 rfl, Holds.ro_at H35_ 0 rfl⟩ ?_
        refine A_take 5 (ls' := #[true, true, true, true, true, true, false, false, false, false, false, false, false]) (v := (Value.pointer (some ⟨pw, 0, none⟩))) rfl (by kernel_rfl) (by kernel_rfl) (by kernel_rfl) (by kernel_rfl) (fun _ _ _ h => h) (fun w hS => by kernel_rfl) ⟨Holds.rd H35_ 1 rfl, Holds.ro_at H35_ 0 rfl⟩ ?_
        refine A_take 6 (ls' := #[true, true, true, true, true, true, true, false, false, false, false, false, false]) (v := (Value.pointer (some ⟨pw, 3, none⟩))) rfl (by kernel_rfl) (by kernel_rfl) (by kernel_rfl) (by kernel_rfl) (fun _ _ _ h => h) (fun w hS => by kernel_rfl) ⟨Holds.rd H35_ 1 rfl, Holds.ro_at H35_ 0 rfl⟩ ?_
        refine A_take 7 (ls' := #[true, true, true, true, true, true, true, true, false, false, false, false, false]) (v := (Value.int .i64 (pd.length : Int))) rfl (by kernel_rfl) (by kernel_rfl) (by kernel_rfl) (by kernel_rfl) (fun _ _ _ h => h) (fun w hS => x_load1 rfl Try.underlying3 rfl (hS.1 3 (Value.int .i64 (pd.length : Int)) rfl)) ⟨Holds.rd H35_ 1 rfl, Holds.ro_at H35_ 0 rfl⟩ ?_
        refine A_take 8 (ls' := #[true, true, true, true, true, true, true, true, true, false, false, false, false]) (v := (Value.slice (some ⟨bb, pd.length, none⟩) ((wm + page) - pd.length) ((wm + page) - pd.length))) rfl (by kernel_rfl) (by kernel_rfl) (by kernel_rfl) (by kernel_rfl) (fun _ _ _ h => h) (fun w hS => x_slice (l := pd.length) (h := (wm + page)) rfl Try.underlying25 z5 rfl ⟨_, _, rfl, by omega, by omega, by omega⟩ ((by rw [if_neg (by omega)]; first | rfl | simp [add_mk]))) ⟨Holds.rd H35_ 1 rfl, Holds.ro_at H35_ 0 rfl⟩ ?_
        refine A_take 9 (ls' := #[true, true, true, true, true, true, true, true, true, true, false, false, false]) (v := p) rfl (by kernel_rfl) (by kernel_rfl) (by kernel_rfl) (by kernel_rfl) (fun _ _ _ h => h) (fun w hS => x_move rfl) ⟨Holds.rd H35_ 1 rfl, Holds.ro_at H35_ 0 rfl⟩ ?_
        refine A_take 10 (ls' := #[true, true, true, true, true, true, true, true, true, true, true, false, false]) (v := (Value.int .i64 (k : Int))) rfl (by kernel_rfl) (by kernel_rfl) (by kernel_rfl) (by kernel_rfl) (fun _ _ _ h => h) (fun w hS => x_move rfl) ⟨Holds.rd H35_ 1 rfl, Holds.ro_at H35_ 0 rfl⟩ ?_
        refine A_take 11 (ls' := #[true, true, true, true, true, true, true, true, true, true, true, true, false]) (v := (slc p 0 k 1)) rfl (by kernel_rfl) (by kernel_rfl) (by kernel_rfl) (by kernel_rfl) (fun _ _ _ h => h) (fun w hS => x_sliceRS (l := 0) (h := k) rfl hP Try.underlying25 z5 (by omega) ⟨_, _, rfl, by omega, by omega, by omega⟩ rfl) ⟨Holds.rd H35_ 1 rfl, Holds.ro_at H35_ 0 rfl⟩ ?_
        refine A_ready (i := 12) (rs := []) (by kernel_rfl) ?_
        refine AllR.cons ?_ AllR.nil
        refine A_op (ls' := #[true, true, true, true, true, true, true, true, true, true, true, true, true]) rfl (by kernel_rfl) (T_copy rfl rfl Try.underlying25 z5 H35_ 2 rfl (RS.slcB hP (by omega : 0 ≤ k) (by omega : k ≤ k)) (Holds.ro_at H35_ 0 rfl) (by omega) (by simp only [List.length_append, bytesV_len]; omega) (one_bytes _) ?_)
        intro w36_ S38_ H37_
        replace H37_ : Holds w36_ (ro R :: cl pw 142 [(Value.iface 89 (Value.pointer (some ⟨bl, 0, none⟩))), (Value.int .i64 (po : Int)), (Value.int .i64 (page : Int)), (Value.int .i64 (pd.length : Int)), (Value.slice (some ⟨bb, 0, none⟩) (wm + page) (wm + page)), (Value.int .i64 (wm : Int))] :: cl bb 5 (List.take pd.length (bytesV pd ++ junk) ++ (bytesV ((List.drop 0 ns).take (k - 0))) ++ List.drop (pd.length + List.length (bytesV ((List.drop 0 ns).take (k - 0)))) (bytesV pd ++ junk)) :: cl bl 91 [V] :: sl 9 1 V ws.length (strs ws) :: F) := H37_
        have S39_ := Same.trans (Same.trans (Same.trans (Same.trans (Same.refl w) (Same.drew _)) (Same.drew _)) (Same.drew _)) S38_
        refine ⟨⟨Holds.rd H37_ 1 rfl, Holds.ro_at H37_ 0 rfl⟩, ?_⟩
        refine A_done (by kernel_rfl) ?_
        refine (X_then (hK33_ _ _ ?_))
        clear hK33_
        refine C_seq (fun K40_ hK40_ => ?_)
        refine C_reg ?_
        refine S_list (T_val (v := (Value.pointer (some ⟨pw, 0, none⟩))) (x_move rfl) ?_)
        refine S_list (T_val (v := (Value.pointer (some ⟨pw, 0, none⟩))) (by kernel_rfl) ?_)
        refine S_list (T_val (v := (Value.pointer (some ⟨pw, 3, none⟩))) (by kernel_rfl) ?_)
        refine S_list (T_val (v := (Value.int .i64 (pd.length : Int))) (x_load1 rfl Try.underlying3 rfl ((Holds.rd H37_ 1 rfl) 3 (Value.int .i64 (pd.length : Int)) rfl)) ?_)
        refine S_list (T_val (v := (Value.int .i64 (k : Int))) (x_move rfl) ?_)
        refine S_list (T_val (v := (Value.int .i64 ((pd.length : Int) + (k : Int)))) (x_bin rfl rfl (ib_add (IntWalk.i64_in _ (by omega)))) ?_)
        refine S_list (T_val (v := (Value.pointer (some ⟨pw, 0, none⟩))) (by kernel_rfl) ?_)
        refine S_list (T_val (v := (Value.pointer (some ⟨pw, 3, none⟩))) (by kernel_rfl) ?_)
        refine S_list0 (T_store1 (v := (Value.int .i64 ((pd.length : Int) + (k : Int)))) rfl rfl z3 rfl H37_ 1 rfl (Nat.le_of_ble_eq_true (by rfl)) ?_)
        intro w41_ S43_ H42_
        replace H42_ : Holds w41_ (ro R :: cl pw 142 [(Value.iface 89 (Value.pointer (some ⟨bl, 0, none⟩))), (Value.int .i64 (po : Int)), (Value.int .i64 (page : Int)), (Value.int .i64 ((pd.length : Int) + (k : Int))), (Value.slice (some ⟨bb, 0, none⟩) (wm + page) (wm + page)), (Value.int .i64 (wm : Int))] :: cl bb 5 (List.take pd.length (bytesV pd ++ junk) ++ (bytesV ((List.drop 0 ns).take (k - 0))) ++ List.drop (pd.length + List.length (bytesV ((List.drop 0 ns).take (k - 0)))) (bytesV pd ++ junk)) :: cl bl 91 [V] :: sl 9 1 V ws.length (strs ws) :: F) := H42_
        have S44_ := Same.trans S39_ S43_
        refine wpList_nil ?_
        refine (X_then (hK40_ _ _ ?_))
        clear hK40_
        refine C_seq (fun K45_ hK45_ => ?_)
        refine C_reg ?_
        refine S_list (T_val (v := (Value.int .i64 (k : Int))) (x_move rfl) ?_)
        refine S_list (T_val (v := (Value.int .i64 (k : Int))) (x_assign rfl) ?_)
        refine wpList_nil ?_
        refine (X_then (hK45_ _ _ ?_))
        clear hK45_
        refine C_seq (fun K46_ hK46_ => ?_)
        refine C_reg ?_
        refine S_list (T_val (v := p) (x_move rfl) ?_)
        refine S_list (T_val (v := (Value.int .i64 (k : Int))) (x_move rfl) ?_)
        refine S_list (T_val (v := (slc p k k 1)) (x_sliceRS (l := k) (h := k) rfl hP Try.underlying25 z5 (by omega) rfl ⟨_, _, rfl, by omega, by omega, by omega⟩) ?_)
        refine S_list (T_val (v := (slc p k k 1)) (x_assign rfl) ?_)
        refine wpList_nil ?_
        refine (X_then (hK46_ _ _ ?_))
        clear hK46_
        refine C_seq (fun K47_ hK47_ => ?_)
        refine C_reg ?_
        refine S_list (T_val (v := (Value.bool (decide ((k : Int) < (sk : Int))))) (x_move rfl) ?_)
        refine wpList_nil ?_
        refine (X_then (hK47_ _ _ ?_))
        clear hK47_
        refine C_condT (congrArg Value.bool c32_t) ?_
        refine C_seq (fun K48_ hK48_ => ?_)
        refine C_reg ?_
        refine S_list (T_val (v := (Value.int .i64 (k : Int))) (x_move rfl) ?_)
        refine S_list (T_val (v := (Value.int .i64 (k : Int))) (x_assign rfl) ?_)
        refine S_list (T_val (v := (Value.nilIface)) (x_assign rfl) ?_)
        refine wpList_nil ?_
        refine (X_then (hK48_ _ _ ?_))
        clear hK48_
        refine C_ret (X_thenR ?_)
        refine R_any (v := (Value.tuple #[(Value.int .i64 (k : Int)), (Value.nilIface)])) (run_results2 rfl rfl rfl) ?_
        have H49_ : Holds w41_ (ro R :: cl pw 142 [(Value.iface 89 (Value.pointer (some ⟨bl, 0, none⟩))), (Value.int .i64 (po : Int)), (Value.int .i64 (page : Int)), (Value.int .i64 ((pd.length : Int) + (k : Int))), (Value.slice (some ⟨bb, 0, none⟩) (wm + page) (wm + page)), (Value.int .i64 (wm : Int))] :: cl bb 5 (List.take pd.length (bytesV pd ++ junk) ++ (bytesV ((List.drop 0 ns).take (k - 0))) ++ List.drop (pd.length + List.length (bytesV ((List.drop 0 ns).take (k - 0)))) (bytesV pd ++ junk)) :: cl bl 91 [V] :: sl 9 1 V (List.length (ws ++ [])) (strs (ws ++ [])) :: F) := cast2 (P := fun (c__ : List Value) (k__ : Nat) => Holds w41_ (ro R :: cl pw 142 [(Value.iface 89 (Value.pointer (some ⟨bl, 0, none⟩))), (Value.int .i64 (po : Int)), (Value.int .i64 (page : Int)), (Value.int .i64 ((pd.length : Int) + (k : Int))), (Value.slice (some ⟨bb, 0, none⟩) (wm + page) (wm + page)), (Value.int .i64 (wm : Int))] :: cl bb 5 (List.take pd.length (bytesV pd ++ junk) ++ (bytesV ((List.drop 0 ns).take (k - 0))) ++ List.drop (pd.length + List.length (bytesV ((List.drop 0 ns).take (k - 0)))) (bytesV pd ++ junk)) :: cl bl 91 [V] :: sl 9 1 V k__ c__ :: F)) (by simp : strs ws = strs (ws ++ [])) (by simp : ws.length = List.length (ws ++ [])) H42_
        have H50_ : Holds w41_ (ro R :: cl pw 142 [(Value.iface 89 (Value.pointer (some ⟨bl, 0, none⟩))), (Value.int .i64 (po : Int)), (Value.int .i64 (page : Int)), (Value.int .i64 ((pd.length : Int) + (k : Int))), (Value.slice (some ⟨bb, 0, none⟩) (wm + page) (wm + page)), (Value.int .i64 (wm : Int))] :: cl bb 5 (bytesV (pd ++ List.take (k - 0) (List.drop 0 ns)) ++ List.drop (List.take (k - 0) (List.drop 0 ns)).length junk) :: cl bl 91 [V] :: sl 9 1 V (List.length (ws ++ [])) (strs (ws ++ [])) :: F) := cast1 (P := fun (c__ : List Value) => Holds w41_ (ro R :: cl pw 142 [(Value.iface 89 (Value.pointer (some ⟨bl, 0, none⟩))), (Value.int .i64 (po : Int)), (Value.int .i64 (page : Int)), (Value.int .i64 ((pd.length : Int) + (k : Int))), (Value.slice (some ⟨bb, 0, none⟩) (wm + page) (wm + page)), (Value.int .i64 (wm : Int))] :: cl bb 5 c__ :: cl bl 91 [V] :: sl 9 1 V (List.length (ws ++ [])) (strs (ws ++ [])) :: F)) (buf_put pd (List.take (k - 0) (List.drop 0 ns)) junk : List.take pd.length (bytesV pd ++ junk) ++ (bytesV ((List.drop 0 ns).take (k - 0))) ++ List.drop (pd.length + List.length (bytesV ((List.drop 0 ns).take (k - 0)))) (bytesV pd ++ junk) = bytesV (pd ++ List.take (k - 0) (List.drop 0 ns)) ++ List.drop (List.take (k - 0) (List.drop 0 ns)).length junk) H49_
        have H51_ : Holds w41_ (ro R :: cl pw 142 [(Value.iface 89 (Value.pointer (some ⟨bl, 0, none⟩))), (Value.int .i64 (po : Int)), (Value.int .i64 (page : Int)), (Value.int .i64 ((pd.length : Int) + (k : Int))), (Value.slice (some ⟨bb, 0, none⟩) (wm + page) (wm + page)), (Value.int .i64 (wm : Int))] :: cl bb 5 (bytesV (pd ++ ns) ++ List.drop ns.length junk) :: cl bl 91 [V] :: sl 9 1 V (List.length (ws ++ [])) (strs (ws ++ [])) :: F) := cast1 (P := fun (c__ : List Value) => Holds w41_ (ro R :: cl pw 142 [(Value.iface 89 (Value.pointer (some ⟨bl, 0, none⟩))), (Value.int .i64 (po : Int)), (Value.int .i64 (page : Int)), (Value.int .i64 ((pd.length : Int) + (k : Int))), (Value.slice (some ⟨bb, 0, none⟩) (wm + page) (wm + page)), (Value.int .i64 (wm : Int))] :: cl bb 5 c__ :: cl bl 91 [V] :: sl 9 1 V (List.length (ws ++ [])) (strs (ws ++ [])) :: F)) (by rw [show List.take (k - 0) (List.drop 0 ns) = ns by rw [List.drop_zero, Nat.sub_zero, ← hk, List.take_length]] : bytesV (pd ++ List.take (k - 0) (List.drop 0 ns)) ++ List.drop (List.take (k - 0) (List.drop 0 ns)).length junk = bytesV (pd ++ ns) ++ List.drop ns.length junk) H50_
        have H52_ : Holds w41_ (ro R :: cl pw 142 [(Value.iface 89 (Value.pointer (some ⟨bl, 0, none⟩))), (Value.int .i64 (po : Int)), (Value.int .i64 (page : Int)), (Value.int .i64 ((pd ++ ns).length : Int)), (Value.slice (some ⟨bb, 0, none⟩) (wm + page) (wm + page)), (Value.int .i64 (wm : Int))] :: cl bb 5 (bytesV (pd ++ ns) ++ List.drop ns.length junk) :: cl bl 91 [V] :: sl 9 1 V (List.length (ws ++ [])) (strs (ws ++ [])) :: F) := cast1 (P := fun (c__ : List Value) => Holds w41_ (ro R :: cl pw 142 c__ :: cl bb 5 (bytesV (pd ++ ns) ++ List.drop ns.length junk) :: cl bl 91 [V] :: sl 9 1 V (List.length (ws ++ [])) (strs (ws ++ [])) :: F)) (by rw [show (pd.length : Int) + (k : Int) = ((pd ++ ns).length : Int) by simp; omega] : [(Value.iface 89 (Value.pointer (some ⟨bl, 0, none⟩))), (Value.int .i64 (po : Int)), (Value.int .i64 (page : Int)), (Value.int .i64 ((pd.length : Int) + (k : Int))), (Value.slice (some ⟨bb, 0, none⟩) (wm + page) (wm + page)), (Value.int .i64 (wm : Int))] = [(Value.iface 89 (Value.pointer (some ⟨bl, 0, none⟩))), (Value.int .i64 (po : Int)), (Value.int .i64 (page : Int)), (Value.int .i64 ((pd ++ ns).length : Int)), (Value.slice (some ⟨bb, 0, none⟩) (wm + page) (wm + page)), (Value.int .i64 (wm : Int))]) H51_
        exact ⟨_, [cl pw 142 [(Value.iface 89 (Value.pointer (some ⟨bl, 0, none⟩))), (Value.int .i64 (po : Int)), (Value.int .i64 (page : Int)), (Value.int .i64 ((pd ++ ns).length : Int)), (Value.slice (some ⟨bb, 0, none⟩) (wm + page) (wm + page)), (Value.int .i64 (wm : Int))], cl bb 5 (bytesV (pd ++ ns) ++ List.drop ns.length junk), cl bl 91 [V], sl 9 1 V (List.length (ws ++ [])) (strs (ws ++ []))], rfl, ⟨_, po, pd ++ ns, List.drop ns.length junk, V, [], rfl, rfl, WOk.part (r := r) (by omega) hr (by omega) (by omega) (by omega), (fun _ => rfl), by rw [List.length_append, List.length_drop]; omega⟩, S44_, H52_⟩
      · have c32_fp : ¬ ((k : Int) < (sk : Int)) := of_decide_eq_false c32_f
        refine C_skip (X_then (hK30_ _ _ ?_))
        clear hK30_
        refine C_seq (fun K53_ hK53_ => ?_)
        refine A_start (S := fun w => Rd pw [(Value.iface 89 (Value.pointer (some ⟨bl, 0, none⟩))), (Value.int .i64 (po : Int)), (Value.int .i64 (page : Int)), (Value.int .i64 (pd.length : Int)), (Value.slice (some ⟨bb, 0, none⟩) (wm + page) (wm + page)), (Value.int .i64 (wm : Int))] w ∧ Sub R (hp w)) (N := 13) foll rfl rfl ?_
        have H55_ : Holds w.drew.drew.drew (ro R :: cl pw 142 [(Value.iface 89 (Value.pointer (some ⟨bl, 0, none⟩))), (Value.int .i64 (po : Int)), (Value.int .i64 (page : Int)), (Value.int .i64 (pd.length : Int)), (Value.slice (some ⟨bb, 0, none⟩) (wm + page) (wm + page)), (Value.int .i64 (wm : Int))] :: cl bb 5 (bytesV pd ++ junk) :: cl bl 91 [V] :: sl 9 1 V ws.length (strs ws) :: F) := H25_
        refine A_take 0 (ls' := #[true, false, false, false, false, false, false, false, false, false, false, false, false]) (v := (Value.pointer (some ⟨pw, 0, none⟩))) rfl (by kernel_rfl) (by kernel_rfl) (by kernel_rfl) (by kernel_rfl) (fun _ _ _ h => h) (fun w hS => x_move rfl) ⟨Holds.rd H55_ 1 rfl, Holds.ro_at H55_ 0 rfl⟩ ?_
        refine A_take 1 (ls' := #[true, true, false, false, false, false, false, false, false, false, false, false, false]) (v := (Value.pointer (some ⟨pw, 0, none⟩))) rfl (by kernel_rfl) (by kernel_rfl) (by kernel_rfl) (by kernel_rfl) (fun _ _ _ h => h) (fun w hS => by kernel_rfl) ⟨Holds.rd H55_ 1 rfl, Holds.ro_at H55_ 0 rfl⟩ ?_
        refine A_take 2 (ls' := #[true, true, true, false, false, false, false, false, false, false, false, false, false]) (v := (Value.pointer (some ⟨pw, 4, none⟩))) rfl (by kernel_rfl) (by kernel_rfl) (by kernel_rfl) (by kernel_rfl) (fun _ _ _ h => h) (fun w hS => by kernel_rfl) ⟨Holds.rd H55_ 1 rfl, Holds.ro_at H55_ 0 rfl⟩ ?_
        refine A_take 3 (ls' := #[true, true, true, true, false, false, false, false, false, false, false, false, false]) (v := (Value.slice (some ⟨bb, 0, none⟩) (wm + page) (wm + page))) rfl (by kernel_rfl) (by kernel_rfl) (by kernel_rfl) (by kernel_rfl) (fun _ _ _ h => h) (fun w hS => x_load1 rfl Try.underlying25 rfl (hS.1 4 (Value.slice (some ⟨bb, 0, none⟩) (wm + page) (wm + page)) rfl)) ⟨Holds.rd H55_ 1 rfl, Holds.ro_at H55_ 0 rfl⟩ ?_
        refine A_take 4 (ls' := #[true, true, true, true, true, false, false, false, false, false, false, false, false]) (v := (Value.pointer (some ⟨pw, 0, none⟩))) rfl (by kernel_rfl) (by kernel_rfl) (by kernel_rfl) (by kernel_rfl) (fun _ _ _ h => h) (fun w hS => x_move rfl) ⟨Holds.rd H55_ 1 rfl, Holds.ro_at H55_ 0 rfl⟩ ?_
        refine A_take 5 (ls' := #[true, true, true, true, true, true, false, false, false, false, false, false, false]) (v := (Value.pointer (some ⟨pw, 0, none⟩))) rfl (by kernel_rfl) (by kernel_rfl) (by kernel_rfl) (by kernel_rfl) (fun _ _ _ h => h) (fun w hS => by kernel_rfl) ⟨Holds.rd H55_ 1 rfl, Holds.ro_at H55_ 0 rfl⟩ ?_
        refine A_take 6 (ls' := #[true, true, true, true, true, true, true, false, false, false, false, false, false]) (v := (Value.pointer (some ⟨pw, 3, none⟩))) rfl (by kernel_rfl) (by kernel_rfl) (by kernel_rfl) (by kernel_rfl) (fun _ _ _ h => h) (fun w hS => by kernel_rfl) ⟨Holds.rd H55_ 1 rfl, Holds.ro_at H55_ 0 rfl⟩ ?_
        refine A_take 7 (ls' := #[true, true, true, true, true, true, true, true, false, false, false, false, false]) (v := (Value.int .i64 (pd.length : Int))) rfl (by kernel_rfl) (by kernel_rfl) (by kernel_rfl) (by kernel_rfl) (fun _ _ _ h => h) (fun w hS => x_load1 rfl Try.underlying3 rfl (hS.1 3 (Value.int .i64 (pd.length : Int)) rfl)) ⟨Holds.rd H55_ 1 rfl, Holds.ro_at H55_ 0 rfl⟩ ?_
        refine A_take 8 (ls' := #[true, true, true, true, true, true, true, true, true, false, false, false, false]) (v := (Value.slice (some ⟨bb, pd.length, none⟩) ((wm + page) - pd.length) ((wm + page) - pd.length))) rfl (by kernel_rfl) (by kernel_rfl) (by kernel_rfl) (by kernel_rfl) (fun _ _ _ h => h) (fun w hS => x_slice (l := pd.length) (h := (wm + page)) rfl Try.underlying25 z5 rfl ⟨_, _, rfl, by omega, by omega, by omega⟩ ((by rw [if_neg (by omega)]; first | rfl | simp [add_mk]))) ⟨Holds.rd H55_ 1 rfl, Holds.ro_at H55_ 0 rfl⟩ ?_
        refine A_take 9 (ls' := #[true, true, true, true, true, true, true, true, true, true, false, false, false]) (v := p) rfl (by kernel_rfl) (by kernel_rfl) (by kernel_rfl) (by kernel_rfl) (fun _ _ _ h => h) (fun w hS => x_move rfl) ⟨Holds.rd H55_ 1 rfl, Holds.ro_at H55_ 0 rfl⟩ ?_
        refine A_take 10 (ls' := #[true, true, true, true, true, true, true, true, true, true, true, false, false]) (v := (Value.int .i64 (sk : Int))) rfl (by kernel_rfl) (by kernel_rfl) (by kernel_rfl) (by kernel_rfl) (fun _ _ _ h => h) (fun w hS => x_move rfl) ⟨Holds.rd H55_ 1 rfl, Holds.ro_at H55_ 0 rfl⟩ ?_
        refine A_take 11 (ls' := #[true, true, true, true, true, true, true, true, true, true, true, true, false]) (v := (slc p 0 sk 1)) rfl (by kernel_rfl) (by kernel_rfl) (by kernel_rfl) (by kernel_rfl) (fun _ _ _ h => h) (fun w hS => x_sliceRS (l := 0) (h := sk) rfl hP Try.underlying25 z5 (by omega) ⟨_, _, rfl, by omega, by omega, by omega⟩ rfl) ⟨Holds.rd H55_ 1 rfl, Holds.ro_at H55_ 0 rfl⟩ ?_
        refine A_ready (i := 12) (rs := []) (by kernel_rfl) ?_
        refine AllR.cons ?_ AllR.nil
        refine A_op (ls' := #[true, true, true, true, true, true, true, true, true, true, true, true, true]) rfl (by kernel_rfl) (T_copy rfl rfl Try.underlying25 z5 H55_ 2 rfl (RS.slcB hP (by omega : 0 ≤ sk) (by omega : sk ≤ k)) (Holds.ro_at H55_ 0 rfl) (by omega) (by simp only [List.length_append, bytesV_len]; omega) (one_bytes _) ?_)
        intro w56_ S58_ H57_
        replace H57_ : Holds w56_ (ro R :: cl pw 142 [(Value.iface 89 (Value.pointer (some ⟨bl, 0, none⟩))), (Value.int .i64 (po : Int)), (Value.int .i64 (page : Int)), (Value.int .i64 (pd.length : Int)), (Value.slice (some ⟨bb, 0, none⟩) (wm + page) (wm + page)), (Value.int .i64 (wm : Int))] :: cl bb 5 (List.take pd.length (bytesV pd ++ junk) ++ (bytesV ((List.drop 0 ns).take (sk - 0))) ++ List.drop (pd.length + List.length (bytesV ((List.drop 0 ns).take (sk - 0)))) (bytesV pd ++ junk)) :: cl bl 91 [V] :: sl 9 1 V ws.length (strs ws) :: F) := H57_
        have S59_ := Same.trans (Same.trans (Same.trans (Same.trans (Same.refl w) (Same.drew _)) (Same.drew _)) (Same.drew _)) S58_
        refine ⟨⟨Holds.rd H57_ 1 rfl, Holds.ro_at H57_ 0 rfl⟩, ?_⟩
        refine A_done (by kernel_rfl) ?_
        refine (X_then (hK53_ _ _ ?_))
        clear hK53_
        refine C_seq (fun K60_ hK60_ => ?_)
        refine C_reg ?_
        refine S_list (T_val (v := (Value.pointer (some ⟨pw, 0, none⟩))) (x_move rfl) ?_)
        refine S_list (T_val (v := (Value.pointer (some ⟨pw, 0, none⟩))) (by kernel_rfl) ?_)
        refine S_list (T_val (v := (Value.pointer (some ⟨pw, 3, none⟩))) (by kernel_rfl) ?_)
        refine S_list (T_val (v := (Value.int .i64 (pd.length : Int))) (x_load1 rfl Try.underlying3 rfl ((Holds.rd H57_ 1 rfl) 3 (Value.int .i64 (pd.length : Int)) rfl)) ?_)
        refine S_list (T_val (v := (Value.int .i64 (sk : Int))) (x_move rfl) ?_)
        refine S_list (T_val (v := (Value.int .i64 ((pd.length : Int) + (sk : Int)))) (x_bin rfl rfl (ib_add (IntWalk.i64_in _ (by omega)))) ?_)
        refine S_list (T_val (v := (Value.pointer (some ⟨pw, 0, none⟩))) (by kernel_rfl) ?_)
        refine S_list (T_val (v := (Value.pointer (some ⟨pw, 3, none⟩))) (by kernel_rfl) ?_)
        refine S_list0 (T_store1 (v := (Value.int .i64 ((pd.length : Int) + (sk : Int)))) rfl rfl z3 rfl H57_ 1 rfl (Nat.le_of_ble_eq_true (by rfl)) ?_)
        intro w61_ S63_ H62_
        replace H62_ : Holds w61_ (ro R :: cl pw 142 [(Value.iface 89 (Value.pointer (some ⟨bl, 0, none⟩))), (Value.int .i64 (po : Int)), (Value.int .i64 (page : Int)), (Value.int .i64 ((pd.length : Int) + (sk : Int))), (Value.slice (some ⟨bb, 0, none⟩) (wm + page) (wm + page)), (Value.int .i64 (wm : Int))] :: cl bb 5 (List.take pd.length (bytesV pd ++ junk) ++ (bytesV ((List.drop 0 ns).take (sk - 0))) ++ List.drop (pd.length + List.length (bytesV ((List.drop 0 ns).take (sk - 0)))) (bytesV pd ++ junk)) :: cl bl 91 [V] :: sl 9 1 V ws.length (strs ws) :: F) := H62_
        have S64_ := Same.trans S59_ S63_
        refine wpList_nil ?_
        refine (X_then (hK60_ _ _ ?_))
        clear hK60_
        refine C_seq (fun K65_ hK65_ => ?_)
        refine C_reg ?_
        refine S_list (T_val (v := (Value.int .i64 (sk : Int))) (x_move rfl) ?_)
        refine S_list (T_val (v := (Value.int .i64 (sk : Int))) (x_assign rfl) ?_)
        refine wpList_nil ?_
        refine (X_then (hK65_ _ _ ?_))
        clear hK65_
        refine C_seq (fun K66_ hK66_ => ?_)
        refine C_reg ?_
        refine S_list (T_val (v := p) (x_move rfl) ?_)
        refine S_list (T_val (v := (Value.int .i64 (sk : Int))) (x_move rfl) ?_)
        refine S_list (T_val (v := (slc p sk k 1)) (x_sliceRS (l := sk) (h := k) rfl hP Try.underlying25 z5 (by omega) rfl ⟨_, _, rfl, by omega, by omega, by omega⟩) ?_)
        refine S_list (T_val (v := (slc p sk k 1)) (x_assign rfl) ?_)
        refine wpList_nil ?_
        refine (X_then (hK66_ _ _ ?_))
        clear hK66_
        refine C_seq (fun K67_ hK67_ => ?_)
        refine C_reg ?_
        refine S_list (T_val (v := (Value.bool (decide ((k : Int) < (sk : Int))))) (x_move rfl) ?_)
        refine wpList_nil ?_
        refine (X_then (hK67_ _ _ ?_))
        clear hK67_
        refine C_condF (congrArg Value.bool c32_f) ?_
        refine C_skip (X_then (hK26_ _ _ ?_))
        clear hK26_
        refine C_seq (fun K68_ hK68_ => ?_)
        refine C_seq (fun K69_ hK69_ => ?_)
        refine C_reg ?_
        refine S_list (T_val (v := (Value.pointer (some ⟨pw, 0, none⟩))) (x_move rfl) ?_)
        refine S_list (T_callW (al := [(Value.pointer (some ⟨pw, 0, none⟩))]) rfl rfl cb55 (Calls.into (n := 11) (al := [(Value.pointer (some ⟨pw, 0, none⟩))]) Try.func55 rfl Try.ntmps55 rfl rfl ?_))
        refine C_seq (fun K70_ hK70_ => ?_)
        refine C_reg ?_
        refine S_list (T_val (v := (Value.nilIface)) (x_assign rfl) ?_)
        refine wpList_nil ?_
        refine (X_then (hK70_ _ _ ?_))
        clear hK70_
        refine C_seq (fun K71_ hK71_ => ?_)
        refine C_reg ?_
        refine S_list (T_val (v := (Value.pointer (some ⟨pw, 0, none⟩))) (x_move rfl) ?_)
        have hpc : (List.take (sk - 0) (List.drop 0 ns)).length = sk := by simp; omega
        have H72_ : Holds w61_ (ro R :: cl pw 142 [(Value.iface 89 (Value.pointer (some ⟨bl, 0, none⟩))), (Value.int .i64 (po : Int)), (Value.int .i64 (page : Int)), (Value.int .i64 ((pd.length : Int) + (sk : Int))), (Value.slice (some ⟨bb, 0, none⟩) (wm + page) (wm + page)), (Value.int .i64 (wm : Int))] :: cl bb 5 (bytesV (pd ++ List.take (sk - 0) (List.drop 0 ns)) ++ List.drop (List.take (sk - 0) (List.drop 0 ns)).length junk) :: cl bl 91 [V] :: sl 9 1 V ws.length (strs ws) :: F) := cast1 (P := fun (c__ : List Value) => Holds w61_ (ro R :: cl pw 142 [(Value.iface 89 (Value.pointer (some ⟨bl, 0, none⟩))), (Value.int .i64 (po : Int)), (Value.int .i64 (page : Int)), (Value.int .i64 ((pd.length : Int) + (sk : Int))), (Value.slice (some ⟨bb, 0, none⟩) (wm + page) (wm + page)), (Value.int .i64 (wm : Int))] :: cl bb 5 c__ :: cl bl 91 [V] :: sl 9 1 V ws.length (strs ws) :: F)) (buf_put pd (List.take (sk - 0) (List.drop 0 ns)) junk : List.take pd.length (bytesV pd ++ junk) ++ (bytesV ((List.drop 0 ns).take (sk - 0))) ++ List.drop (pd.length + List.length (bytesV ((List.drop 0 ns).take (sk - 0)))) (bytesV pd ++ junk) = bytesV (pd ++ List.take (sk - 0) (List.drop 0 ns)) ++ List.drop (List.take (sk - 0) (List.drop 0 ns)).length junk) H62_
        have H73_ : Holds w61_ (ro R :: cl pw 142 [(Value.iface 89 (Value.pointer (some ⟨bl, 0, none⟩))), (Value.int .i64 (po : Int)), (Value.int .i64 (page : Int)), (Value.int .i64 ((pd ++ List.take (sk - 0) (List.drop 0 ns)).length : Int)), (Value.slice (some ⟨bb, 0, none⟩) (wm + page) (wm + page)), (Value.int .i64 (wm : Int))] :: cl bb 5 (bytesV (pd ++ List.take (sk - 0) (List.drop 0 ns)) ++ List.drop (List.take (sk - 0) (List.drop 0 ns)).length junk) :: cl bl 91 [V] :: sl 9 1 V ws.length (strs ws) :: F) := cast1 (P := fun (c__ : List Value) => Holds w61_ (ro R :: cl pw 142 c__ :: cl bb 5 (bytesV (pd ++ List.take (sk - 0) (List.drop 0 ns)) ++ List.drop (List.take (sk - 0) (List.drop 0 ns)).length junk) :: cl bl 91 [V] :: sl 9 1 V ws.length (strs ws) :: F)) (by rw [show (pd.length : Int) + (sk : Int) = ((pd ++ List.take (sk - 0) (List.drop 0 ns)).length : Int) by rw [List.length_append, hpc]; omega] : [(Value.iface 89 (Value.pointer (some ⟨bl, 0, none⟩))), (Value.int .i64 (po : Int)), (Value.int .i64 (page : Int)), (Value.int .i64 ((pd.length : Int) + (sk : Int))), (Value.slice (some ⟨bb, 0, none⟩) (wm + page) (wm + page)), (Value.int .i64 (wm : Int))] = [(Value.iface 89 (Value.pointer (some ⟨bl, 0, none⟩))), (Value.int .i64 (po : Int)), (Value.int .i64 (page : Int)), (Value.int .i64 ((pd ++ List.take (sk - 0) (List.drop 0 ns)).length : Int)), (Value.slice (some ⟨bb, 0, none⟩) (wm + page) (wm + page)), (Value.int .i64 (wm : Int))]) H72_
        refine S_list (T_call (al := [(Value.pointer (some ⟨pw, 0, none⟩))]) (pre := [cl pw 142 [(Value.iface 89 (Value.pointer (some ⟨bl, 0, none⟩))), (Value.int .i64 (po : Int)), (Value.int .i64 (page : Int)), (Value.int .i64 ((pd ++ List.take (sk - 0) (List.drop 0 ns)).length : Int)), (Value.slice (some ⟨bb, 0, none⟩) (wm + page) (wm + page)), (Value.int .i64 (wm : Int))], cl bb 5 (bytesV (pd ++ List.take (sk - 0) (List.drop 0 ns)) ++ List.drop (List.take (sk - 0) (List.drop 0 ns)).length junk), cl bl 91 [V], sl 9 1 V ws.length (strs ws)]) (F := F) rfl rfl cb70 (kFlush R pw bb bl page wm po (pd ++ List.take (sk - 0) (List.drop 0 ns)) (List.drop (List.take (sk - 0) (List.drop 0 ns)).length junk) V ws (by omega) (by omega) (by omega) (by omega) (by omega) (by first | omega | (rw [List.length_append, List.length_drop, hpc]; omega)) (by omega) (by first | omega | (rw [List.length_append, hpc]; omega))) H73_ ?_)
        rintro v84_ p85_ w81_ ⟨nn74_, po75_, junk76_, V77_, ws78_, rfl, rfl, hf79_, hj80_⟩ S83_ H82_
        replace H82_ : Holds w81_ (ro R :: cl pw 142 [(Value.iface 89 (Value.pointer (some ⟨bl, 0, none⟩))), (Value.int .i64 (po75_ : Int)), (Value.int .i64 (page : Int)), (Value.int .i64 0), (Value.slice (some ⟨bb, 0, none⟩) (wm + page) (wm + page)), (Value.int .i64 (wm : Int))] :: cl bb 5 (bytesV [] ++ junk76_) :: cl bl 91 [V77_] :: sl 9 1 V77_ (List.length (ws ++ ws78_)) (strs (ws ++ ws78_)) :: F) := H82_
        have S86_ := Same.trans S64_ S83_
        have := FOk.len hf79_
        have hpo1 := FOk.po (by omega) hf79_
        refine S_list (T_val (v := (Value.tuple #[(Value.int .i64 nn74_), (Value.nilIface)])) (x_move rfl) ?_)
        refine S_list (T_val (v := (Value.int .i64 nn74_)) (by kernel_rfl) ?_)
        refine S_list (T_val (v := (Value.nilIface)) (by kernel_rfl) ?_)
        refine S_list (T_val (v := (Value.int .i64 nn74_)) (x_assign rfl) ?_)
        refine S_list (T_val (v := (Value.nilIface)) (x_assign rfl) ?_)
        refine wpList_nil ?_
        refine (X_then (hK71_ _ _ ?_))
        clear hK71_
        refine C_seq (fun K87_ hK87_ => ?_)
        refine C_reg ?_
        refine S_list (T_val (v := (Value.nilIface)) (x_move rfl) ?_)
        refine S_list (T_val (v := (Value.nilIface)) (x_assign rfl) ?_)
        refine wpList_nil ?_
        refine (X_then (hK87_ _ _ ?_))
        clear hK87_
        refine C_ret ?_
        refine R_any (v := (Value.nilIface)) (run_results1 rfl rfl) ⟨_, rfl, ?_⟩
        refine S_list (T_val (v := (Value.nilIface)) (x_assign rfl) ?_)
        refine wpList_nil ?_
        refine (X_then (hK69_ _ _ ?_))
        clear hK69_
        refine C_seq (fun K88_ hK88_ => ?_)
        refine C_reg ?_
        refine S_list (T_val (v := (Value.nilIface)) (x_move rfl) ?_)
        refine S_list (T_val (v := (Value.bool false)) (by kernel_rfl) ?_)
        refine wpList_nil ?_
        refine (X_then (hK88_ _ _ ?_))
        clear hK88_
        refine C_condF rfl ?_
        refine C_skip (X_then (hK68_ _ _ ?_))
        clear hK68_
        refine C_seq (fun K89_ hK89_ => ?_)
        refine C_seq (fun K90_ hK90_ => ?_)
        refine C_reg ?_
        refine S_list (T_val (v := (slc p sk k 1)) (x_move rfl) ?_)
        refine S_list (T_val (v := (Value.int .i64 ((k - sk : Nat) : Int))) (x_lenRS rfl (RS.slcB hP (by omega : sk ≤ k) (by omega : k ≤ k)) Try.underlying25) ?_)
        refine S_list (T_val (v := (Value.pointer (some ⟨pw, 0, none⟩))) (x_move rfl) ?_)
        refine S_list (T_val (v := (Value.pointer (some ⟨pw, 0, none⟩))) (by kernel_rfl) ?_)
        refine S_list (T_val (v := (Value.pointer (some ⟨pw, 2, none⟩))) (by kernel_rfl) ?_)
        refine S_list (T_val (v := (Value.int .i64 (page : Int))) (x_load1 rfl Try.underlying3 rfl ((Holds.rd H82_ 1 rfl) 2 (Value.int .i64 (page : Int)) rfl)) ?_)
        refine S_list (T_val (v := (Value.bool (decide ((page : Int) < ((k - sk : Nat) : Int))))) (x_bin rfl rfl rfl) ?_)
        refine wpList_nil ?_
        refine (X_then (hK90_ _ _ ?_))
        clear hK90_
        refine C_cond (b := decide ((page : Int) < ((k - sk : Nat) : Int))) rfl (fun c91_t => ?_) (fun c91_f => ?_)
        · have c91_tp : (page : Int) < ((k - sk : Nat) : Int) := of_decide_eq_true c91_t
          refine C_seq (fun K92_ hK92_ => ?_)
          refine C_reg ?_
          refine S_list (T_val (v := (slc p sk k 1)) (x_move rfl) ?_)
          refine S_list (T_val (v := (Value.int .i64 ((k - sk : Nat) : Int))) (x_lenRS rfl (RS.slcB hP (by omega : sk ≤ k) (by omega : k ≤ k)) Try.underlying25) ?_)
          refine S_list (T_val (v := (Value.pointer (some ⟨pw, 0, none⟩))) (x_move rfl) ?_)
          refine S_list (T_val (v := (Value.pointer (some ⟨pw, 0, none⟩))) (by kernel_rfl) ?_)
          refine S_list (T_val (v := (Value.pointer (some ⟨pw, 2, none⟩))) (by kernel_rfl) ?_)
          refine S_list (T_val (v := (Value.int .i64 (page : Int))) (x_load1 rfl Try.underlying3 rfl ((Holds.rd H82_ 1 rfl) 2 (Value.int .i64 (page : Int)) rfl)) ?_)
          obtain ⟨q, hq⟩ : ∃ q, (k - sk) / page = q := ⟨_, rfl⟩
          obtain ⟨tt, htt⟩ : ∃ t, q * page = t := ⟨_, rfl⟩
          obtain ⟨hq1, hq2, hq3, hq4⟩ := quo_facts (L := (k - sk)) (by omega) (by omega) hq htt
          refine S_list (T_val (v := (Value.int .i64 (q : Int))) (x_bin rfl rfl (ib_quoN (x := (k - sk)) (y := page) (r := q) (by omega) (by omega) (by omega) (by omega) hq)) ?_)
          refine S_list (T_val (v := (Value.int .i64 (q : Int))) (x_assign rfl) ?_)
          refine wpList_nil ?_
          refine (X_then (hK92_ _ _ ?_))
          clear hK92_
          refine C_seq (fun K93_ hK93_ => ?_)
          refine A_start (S := fun w => Rd pw [(Value.iface 89 (Value.pointer (some ⟨bl, 0, none⟩))), (Value.int .i64 (po75_ : Int)), (Value.int .i64 (page : Int)), (Value.int .i64 0), (Value.slice (some ⟨bb, 0, none⟩) (wm + page) (wm + page)), (Value.int .i64 (wm : Int))] w ∧ Sub R (hp w)) (N := 20) foll rfl rfl ?_
          have H95_ : Holds w81_.drew (ro R :: cl pw 142 [(Value.iface 89 (Value.pointer (some ⟨bl, 0, none⟩))), (Value.int .i64 (po75_ : Int)), (Value.int .i64 (page : Int)), (Value.int .i64 0), (Value.slice (some ⟨bb, 0, none⟩) (wm + page) (wm + page)), (Value.int .i64 (wm : Int))] :: cl bb 5 (bytesV [] ++ junk76_) :: cl bl 91 [V77_] :: sl 9 1 V77_ (List.length (ws ++ ws78_)) (strs (ws ++ ws78_)) :: F) := H82_
          refine A_take 0 (ls' := #[true, false, false, false, false, false, false, false, false, false, false, false, false, false, false, false, false, false, false, false]) (v := (Value.pointer (some ⟨pw, 0, none⟩))) rfl (by kernel_rfl) (by kernel_rfl) (by kernel_rfl) (by kernel_rfl) (fun _ _ _ h => h) (fun w hS => x_move rfl) ⟨Holds.rd H95_ 1 rfl, Holds.ro_at H95_ 0 rfl⟩ ?_
          refine A_take 1 (ls' := #[true, true, false, false, false, false, false, false, false, false, false, false, false, false, false, false, false, false, false, false]) (v := (Value.pointer (some ⟨pw, 0, none⟩))) rfl (by kernel_rfl) (by kernel_rfl) (by kernel_rfl) (by kernel_rfl) (fun _ _ _ h => h) (fun w hS => by kernel_rfl) ⟨Holds.rd H95_ 1 rfl, Holds.ro_at H95_ 0 rfl⟩ ?_
          refine A_take 2 (ls' := #[true, true, true, false, false, false, false, false, false, false, false, false, false, false, false, false, false, false, false, false]) (v := (Value.pointer (some ⟨pw, 0, none⟩))) rfl (by kernel_rfl) (by kernel_rfl) (by kernel_rfl) (by kernel_rfl) (fun _ _ _ h => h) (fun w hS => by kernel_rfl) ⟨Holds.rd H95_ 1 rfl, Holds.ro_at H95_ 0 rfl⟩ ?_
          refine A_take 3 (ls' := #[true, true, true, true, false, false, false, false, false, false, false, false, false, false, false, false, false, false, false, false]) (v := (Value.iface 89 (Value.pointer (some ⟨bl, 0, none⟩)))) rfl (by kernel_rfl) (by kernel_rfl) (by kernel_rfl) (by kernel_rfl) (fun _ _ _ h => h) (fun w hS => x_load1 rfl Try.underlying139 rfl (hS.1 0 (Value.iface 89 (Value.pointer (some ⟨bl, 0, none⟩))) rfl)) ⟨Holds.rd H95_ 1 rfl, Holds.ro_at H95_ 0 rfl⟩ ?_
          refine A_take 4 (ls' := #[true, true, true, true, true, false, false, false, false, false, false, false, false, false, false, false, false, false, false, false]) (v := (slc p sk k 1)) rfl (by kernel_rfl) (by kernel_rfl) (by kernel_rfl) (by kernel_rfl) (fun _ _ _ h => h) (fun w hS => x_move rfl) ⟨Holds.rd H95_ 1 rfl, Holds.ro_at H95_ 0 rfl⟩ ?_
          refine A_take 5 (ls' := #[true, true, true, true, true, true, false, false, false, false, false, false, false, false, false, false, false, false, false, false]) (v := (Value.int .i64 (q : Int))) rfl (by kernel_rfl) (by kernel_rfl) (by kernel_rfl) (by kernel_rfl) (fun _ _ _ h => h) (fun w hS => x_move rfl) ⟨Holds.rd H95_ 1 rfl, Holds.ro_at H95_ 0 rfl⟩ ?_
          refine A_take 6 (ls' := #[true, true, true, true, true, true, true, false, false, false, false, false, false, false, false, false, false, false, false, false]) (v := (Value.pointer (some ⟨pw, 0, none⟩))) rfl (by kernel_rfl) (by kernel_rfl) (by kernel_rfl) (by kernel_rfl) (fun _ _ _ h => h) (fun w hS => x_move rfl) ⟨Holds.rd H95_ 1 rfl, Holds.ro_at H95_ 0 rfl⟩ ?_
          refine A_take 7 (ls' := #[true, true, true, true, true, true, true, true, false, false, false, false, false, false, false, false, false, false, false, false]) (v := (Value.pointer (some ⟨pw, 0, none⟩))) rfl (by kernel_rfl) (by kernel_rfl) (by kernel_rfl) (by kernel_rfl) (fun _ _ _ h => h) (fun w hS => by kernel_rfl) ⟨Holds.rd H95_ 1 rfl, Holds.ro_at H95_ 0 rfl⟩ ?_
          refine A_take 8 (ls' := #[true, true, true, true, true, true, true, true, true, false, false, false, false, false, false, false, false, false, false, false]) (v := (Value.pointer (some ⟨pw, 2, none⟩))) rfl (by kernel_rfl) (by kernel_rfl) (by kernel_rfl) (by kernel_rfl) (fun _ _ _ h => h) (fun w hS => by kernel_rfl) ⟨Holds.rd H95_ 1 rfl, Holds.ro_at H95_ 0 rfl⟩ ?_
          refine A_take 9 (ls' := #[true, true, true, true, true, true, true, true, true, true, false, false, false, false, false, false, false, false, false, false]) (v := (Value.int .i64 (page : Int))) rfl (by kernel_rfl) (by kernel_rfl) (by kernel_rfl) (by kernel_rfl) (fun _ _ _ h => h) (fun w hS => x_load1 rfl Try.underlying3 rfl (hS.1 2 (Value.int .i64 (page : Int)) rfl)) ⟨Holds.rd H95_ 1 rfl, Holds.ro_at H95_ 0 rfl⟩ ?_
          refine A_take 10 (ls' := #[true, true, true, true, true, true, true, true, true, true, true, false, false, false, false, false, false, false, false, false]) (v := (Value.int .i64 (tt : Int))) rfl (by kernel_rfl) (by kernel_rfl) (by kernel_rfl) (by kernel_rfl) (fun _ _ _ h => h) (fun w hS => x_bin rfl rfl (ib_mulN (x := q) (y := page) (r := tt) rfl rfl htt (by omega))) ⟨Holds.rd H95_ 1 rfl, Holds.ro_at H95_ 0 rfl⟩ ?_
          refine A_take 11 (ls' := #[true, true, true, true, true, true, true, true, true, true, true, true, false, false, false, false, false, false, false, false]) (v := (slc (slc p sk k 1) 0 tt 1)) rfl (by kernel_rfl) (by kernel_rfl) (by kernel_rfl) (by kernel_rfl) (fun _ _ _ h => h) (fun w hS => x_sliceRS (l := 0) (h := tt) rfl (RS.slcB hP (by omega : sk ≤ k) (by omega : k ≤ k)) Try.underlying25 z5 (by omega) ⟨_, _, rfl, by omega, by omega, by omega⟩ rfl) ⟨Holds.rd H95_ 1 rfl, Holds.ro_at H95_ 0 rfl⟩ ?_
          refine A_take 12 (ls' := #[true, true, true, true, true, true, true, true, true, true, true, true, true, false, false, false, false, false, false, false]) (v := (Value.iface 89 (Value.pointer (some ⟨bl, 0, none⟩)))) rfl (by kernel_rfl) (by kernel_rfl) (by kernel_rfl) (by kernel_rfl) (fun _ _ _ h => h) (fun w hS => by kernel_rfl) ⟨Holds.rd H95_ 1 rfl, Holds.ro_at H95_ 0 rfl⟩ ?_
          refine A_take 13 (ls' := #[true, true, true, true, true, true, true, true, true, true, true, true, true, true, false, false, false, false, false, false]) (v := (Value.iface 89 (Value.pointer (some ⟨bl, 0, none⟩)))) rfl (by kernel_rfl) (by kernel_rfl) (by kernel_rfl) (by kernel_rfl) (fun _ _ _ h => h) (fun w hS => x_move rfl) ⟨Holds.rd H95_ 1 rfl, Holds.ro_at H95_ 0 rfl⟩ ?_
          refine A_ready (i := 14) (rs := []) (by kernel_rfl) ?_
          refine AllR.cons ?_ AllR.nil
          have H97_ : Holds w81_.drew (ro R :: cl bl 91 [V77_] :: sl 9 1 V77_ (List.length (ws ++ ws78_)) (strs (ws ++ ws78_)) :: cl pw 142 [(Value.iface 89 (Value.pointer (some ⟨bl, 0, none⟩))), (Value.int .i64 (po75_ : Int)), (Value.int .i64 (page : Int)), (Value.int .i64 0), (Value.slice (some ⟨bb, 0, none⟩) (wm + page) (wm + page)), (Value.int .i64 (wm : Int))] :: cl bb 5 (bytesV [] ++ junk76_) :: F) := (Holds.bring (Holds.bring (Holds.bring H95_ 4 rfl) 4 rfl) 2 rfl)
          refine A_op (ls' := #[true, true, true, true, true, true, true, true, true, true, true, true, true, true, true, false, false, false, false, false]) rfl (by kernel_rfl) (T_invoke (al := [(Value.pointer (some ⟨bl, 0, none⟩)), (slc (slc p sk k 1) 0 tt 1)]) (pre := [cl bl 91 [V77_], sl 9 1 V77_ (List.length (ws ++ ws78_)) (strs (ws ++ ws78_))]) (F := cl pw 142 [(Value.iface 89 (Value.pointer (some ⟨bl, 0, none⟩))), (Value.int .i64 (po75_ : Int)), (Value.int .i64 (page : Int)), (Value.int .i64 0), (Value.slice (some ⟨bb, 0, none⟩) (wm + page) (wm + page)), (Value.int .i64 (wm : Int))] :: cl bb 5 (bytesV [] ++ junk76_) :: F) rfl (fun w => by kernel_rfl) rfl cb95 (kBelow R bl (slc (slc p sk k 1) 0 tt 1) V77_ (tt - 0) ((List.drop 0 ((List.drop sk ns).take (k - sk))).take (tt - 0)) (ws ++ ws78_) (RS.slcB (RS.slcB hP (by omega : sk ≤ k) (by omega : k ≤ k)) (by omega : 0 ≤ tt) (by omega : tt ≤ (k - sk))) (by first | omega | (simp; omega))) H97_ ?_)
          rintro v101_ p102_ w98_ ⟨V96_, rfl, rfl⟩ S100_ H99_
          replace H99_ : Holds w98_ (ro R :: cl bl 91 [V96_] :: sl 9 1 V96_ (List.length ((ws ++ ws78_) ++ [(List.drop 0 ((List.drop sk ns).take (k - sk))).take (tt - 0)])) (strs ((ws ++ ws78_) ++ [(List.drop 0 ((List.drop sk ns).take (k - sk))).take (tt - 0)])) :: cl pw 142 [(Value.iface 89 (Value.pointer (some ⟨bl, 0, none⟩))), (Value.int .i64 (po75_ : Int)), (Value.int .i64 (page : Int)), (Value.int .i64 0), (Value.slice (some ⟨bb, 0, none⟩) (wm + page) (wm + page)), (Value.int .i64 (wm : Int))] :: cl bb 5 (bytesV [] ++ junk76_) :: F) := H99_
          have S103_ := Same.trans (Same.trans S86_ (Same.drew _)) S100_
          refine ⟨⟨Holds.rd H99_ 3 rfl, Holds.ro_at H99_ 0 rfl⟩, ?_⟩
          refine A_take 15 (ls' := #[true, true, true, true, true, true, true, true, true, true, true, true, true, true, true, true, false, false, false, false]) (v := (Value.tuple #[(Value.int .i64 ((tt - 0 : Nat) : Int)), (Value.nilIface)])) rfl (by kernel_rfl) (by kernel_rfl) (by kernel_rfl) (by kernel_rfl) (fun _ _ _ h => h) (fun w hS => x_move rfl) ⟨Holds.rd H99_ 3 rfl, Holds.ro_at H99_ 0 rfl⟩ ?_
          refine A_take 16 (ls' := #[true, true, true, true, true, true, true, true, true, true, true, true, true, true, true, true, true, false, false, false]) (v := (Value.int .i64 ((tt - 0 : Nat) : Int))) rfl (by kernel_rfl) (by kernel_rfl) (by kernel_rfl) (by kernel_rfl) (fun _ _ _ h => h) (fun w hS => by kernel_rfl) ⟨Holds.rd H99_ 3 rfl, Holds.ro_at H99_ 0 rfl⟩ ?_
          refine A_take 17 (ls' := #[true, true, true, true, true, true, true, true, true, true, true, true, true, true, true, true, true, true, false, false]) (v := (Value.nilIface)) rfl (by kernel_rfl) (by kernel_rfl) (by kernel_rfl) (by kernel_rfl) (fun _ _ _ h => h) (fun w hS => by kernel_rfl) ⟨Holds.rd H99_ 3 rfl, Holds.ro_at H99_ 0 rfl⟩ ?_
          refine A_take 18 (ls' := #[true, true, true, true, true, true, true, true, true, true, true, true, true, true, true, true, true, true, true, false]) (v := (Value.int .i64 ((tt - 0 : Nat) : Int))) rfl (by kernel_rfl) (by kernel_rfl) (by kernel_rfl) (by kernel_rfl) (fun _ _ _ h => h) (fun w hS => x_assign rfl) ⟨Holds.rd H99_ 3 rfl, Holds.ro_at H99_ 0 rfl⟩ ?_
          refine A_take 19 (ls' := #[true, true, true, true, true, true, true, true, true, true, true, true, true, true, true, true, true, true, true, true]) (v := (Value.nilIface)) rfl (by kernel_rfl) (by kernel_rfl) (by kernel_rfl) (by kernel_rfl) (fun _ _ _ h => h) (fun w hS => x_assign rfl) ⟨Holds.rd H99_ 3 rfl, Holds.ro_at H99_ 0 rfl⟩ ?_
          refine A_done (by kernel_rfl) ?_
          refine (X_then (hK93_ _ _ ?_))
          clear hK93_
          refine C_seq (fun K104_ hK104_ => ?_)
          refine C_reg ?_
          refine S_list (T_val (v := (Value.int .i64 (sk : Int))) (x_move rfl) ?_)
          refine S_list (T_val (v := (Value.int .i64 ((tt - 0 : Nat) : Int))) (x_move rfl) ?_)
          refine S_list (T_val (v := (Value.int .i64 ((sk : Int) + ((tt - 0 : Nat) : Int)))) (x_bin rfl rfl (ib_add (IntWalk.i64_in _ (by omega)))) ?_)
          refine S_list (T_val (v := (Value.int .i64 ((sk : Int) + ((tt - 0 : Nat) : Int)))) (x_assign rfl) ?_)
          refine wpList_nil ?_
          refine (X_then (hK104_ _ _ ?_))
          clear hK104_
          refine C_seq (fun K105_ hK105_ => ?_)
          refine C_seq (fun K106_ hK106_ => ?_)
          refine C_reg ?_
          refine S_list (T_val (v := (Value.nilIface)) (x_move rfl) ?_)
          refine S_list (T_val (v := (Value.bool false)) (by kernel_rfl) ?_)
          refine wpList_nil ?_
          refine (X_then (hK106_ _ _ ?_))
          clear hK106_
          refine C_condF rfl ?_
          refine C_skip (X_then (hK105_ _ _ ?_))
          clear hK105_
          refine C_reg ?_
          refine S_list (T_val (v := (slc p sk k 1)) (x_move rfl) ?_)
          refine S_list (T_val (v := (Value.int .i64 (q : Int))) (x_move rfl) ?_)
          refine S_list (T_val (v := (Value.pointer (some ⟨pw, 0, none⟩))) (x_move rfl) ?_)
          refine S_list (T_val (v := (Value.pointer (some ⟨pw, 0, none⟩))) (by kernel_rfl) ?_)
          refine S_list (T_val (v := (Value.pointer (some ⟨pw, 2, none⟩))) (by kernel_rfl) ?_)
          refine S_list (T_val (v := (Value.int .i64 (page : Int))) (x_load1 rfl Try.underlying3 rfl ((Holds.rd H99_ 3 rfl) 2 (Value.int .i64 (page : Int)) rfl)) ?_)
          refine S_list (T_val (v := (Value.int .i64 (tt : Int))) (x_bin rfl rfl (ib_mulN (x := q) (y := page) (r := tt) rfl rfl htt (by omega))) ?_)
          refine S_list (T_val (v := (slc (slc p sk k 1) tt (k - sk) 1)) (x_sliceRS (l := tt) (h := (k - sk)) rfl (RS.slcB hP (by omega : sk ≤ k) (by omega : k ≤ k)) Try.underlying25 z5 (by omega) rfl ⟨_, _, rfl, by omega, by omega, by omega⟩) ?_)
          refine S_list (T_val (v := (slc (slc p sk k 1) tt (k - sk) 1)) (x_assign rfl) ?_)
          refine wpList_nil ?_
          refine (X_then (hK89_ _ _ ?_))
          clear hK89_
          refine C_seq (fun K107_ hK107_ => ?_)
          refine C_reg ?_
          refine S_list (T_val (v := (Value.pointer (some ⟨pw, 0, none⟩))) (x_move rfl) ?_)
          refine S_list (T_val (v := (slc (slc p sk k 1) tt (k - sk) 1)) (x_move rfl) ?_)
          have H109_ : Holds w98_ (ro R :: cl pw 142 [(Value.iface 89 (Value.pointer (some ⟨bl, 0, none⟩))), (Value.int .i64 (po75_ : Int)), (Value.int .i64 (page : Int)), (Value.int .i64 0), (Value.slice (some ⟨bb, 0, none⟩) (wm + page) (wm + page)), (Value.int .i64 (wm : Int))] :: cl bb 5 (bytesV [] ++ junk76_) :: cl bl 91 [V96_] :: sl 9 1 V96_ (List.length ((ws ++ ws78_) ++ [(List.drop 0 ((List.drop sk ns).take (k - sk))).take (tt - 0)])) (strs ((ws ++ ws78_) ++ [(List.drop 0 ((List.drop sk ns).take (k - sk))).take (tt - 0)])) :: F) := (Holds.bring (Holds.bring (Holds.bring (Holds.bring (Holds.bring H99_ 2 rfl) 2 rfl) 4 rfl) 4 rfl) 4 rfl)
          refine S_list (T_call (al := [(Value.pointer (some ⟨pw, 0, none⟩)), (slc (slc p sk k 1) tt (k - sk) 1)]) (pre := [cl pw 142 [(Value.iface 89 (Value.pointer (some ⟨bl, 0, none⟩))), (Value.int .i64 (po75_ : Int)), (Value.int .i64 (page : Int)), (Value.int .i64 0), (Value.slice (some ⟨bb, 0, none⟩) (wm + page) (wm + page)), (Value.int .i64 (wm : Int))], cl bb 5 (bytesV [] ++ junk76_), cl bl 91 [V96_], sl 9 1 V96_ (List.length ((ws ++ ws78_) ++ [(List.drop 0 ((List.drop sk ns).take (k - sk))).take (tt - 0)])) (strs ((ws ++ ws78_) ++ [(List.drop 0 ((List.drop sk ns).take (k - sk))).take (tt - 0)]))]) (F := F) rfl rfl cb56 (kWriteFit R pw bb bl page wm po75_ [] junk76_ V96_ ((ws ++ ws78_) ++ [(List.drop 0 ((List.drop sk ns).take (k - sk))).take (tt - 0)]) (slc (slc p sk k 1) tt (k - sk) 1) ((k - sk) - tt) ((List.drop tt ((List.drop sk ns).take (k - sk))).take ((k - sk) - tt)) (RS.slcB (RS.slcB hP (by omega : sk ≤ k) (by omega : k ≤ k)) (by omega : tt ≤ (k - sk)) (by omega : (k - sk) ≤ (k - sk))) (by omega) (by omega) (by omega) (by omega) (by omega) (by simp; omega) (by simp; omega) (by simp; omega)) H109_ ?_)
          rintro v113_ p114_ w110_ ⟨junk108_, rfl, rfl, hj_junk108_⟩ S112_ H111_
          replace H111_ : Holds w110_ (ro R :: cl pw 142 [(Value.iface 89 (Value.pointer (some ⟨bl, 0, none⟩))), (Value.int .i64 (po75_ : Int)), (Value.int .i64 (page : Int)), (Value.int .i64 ((List.length ([] ++ ((List.drop tt ((List.drop sk ns).take (k - sk))).take ((k - sk) - tt))) : Nat) : Int)), (Value.slice (some ⟨bb, 0, none⟩) (wm + page) (wm + page)), (Value.int .i64 (wm : Int))] :: cl bb 5 (bytesV ([] ++ ((List.drop tt ((List.drop sk ns).take (k - sk))).take ((k - sk) - tt))) ++ junk108_) :: cl bl 91 [V96_] :: sl 9 1 V96_ (List.length ((ws ++ ws78_) ++ [(List.drop 0 ((List.drop sk ns).take (k - sk))).take (tt - 0)])) (strs ((ws ++ ws78_) ++ [(List.drop 0 ((List.drop sk ns).take (k - sk))).take (tt - 0)])) :: F) := H111_
          have S115_ := Same.trans S103_ S112_
          refine S_list (T_val (v := (Value.tuple #[(Value.int .i64 (((k - sk) - tt : Nat) : Int)), (Value.nilIface)])) (x_move rfl) ?_)
          refine S_list (T_val (v := (Value.int .i64 (((k - sk) - tt : Nat) : Int))) (by kernel_rfl) ?_)
          refine S_list (T_val (v := (Value.nilIface)) (by kernel_rfl) ?_)
          refine S_list (T_val (v := (Value.int .i64 (((k - sk) - tt : Nat) : Int))) (x_assign rfl) ?_)
          refine S_list (T_val (v := (Value.nilIface)) (x_assign rfl) ?_)
          refine wpList_nil ?_
          refine (X_then (hK107_ _ _ ?_))
          clear hK107_
          refine C_seq (fun K116_ hK116_ => ?_)
          refine C_reg ?_
          refine S_list (T_val (v := (Value.int .i64 ((sk : Int) + ((tt - 0 : Nat) : Int)))) (x_move rfl) ?_)
          refine S_list (T_val (v := (Value.int .i64 (((k - sk) - tt : Nat) : Int))) (x_move rfl) ?_)
          refine S_list (T_val (v := (Value.int .i64 (((sk : Int) + ((tt - 0 : Nat) : Int)) + (((k - sk) - tt : Nat) : Int)))) (x_bin rfl rfl (ib_add (IntWalk.i64_in _ (by omega)))) ?_)
          refine S_list (T_val (v := (Value.int .i64 (((sk : Int) + ((tt - 0 : Nat) : Int)) + (((k - sk) - tt : Nat) : Int)))) (x_assign rfl) ?_)
          refine wpList_nil ?_
          refine (X_then (hK116_ _ _ ?_))
          clear hK116_
          refine C_seq (fun K117_ hK117_ => ?_)
          refine C_reg ?_
          refine S_list (T_val (v := (Value.int .i64 (((sk : Int) + ((tt - 0 : Nat) : Int)) + (((k - sk) - tt : Nat) : Int)))) (x_move rfl) ?_)
          refine S_list (T_val (v := (Value.nilIface)) (x_move rfl) ?_)
          refine S_list (T_val (v := (Value.int .i64 (((sk : Int) + ((tt - 0 : Nat) : Int)) + (((k - sk) - tt : Nat) : Int)))) (x_assign rfl) ?_)
          refine S_list (T_val (v := (Value.nilIface)) (x_assign rfl) ?_)
          refine wpList_nil ?_
          refine (X_then (hK117_ _ _ ?_))
          clear hK117_
          refine C_ret ?_
          refine R_any (v := (Value.tuple #[(Value.int .i64 (((sk : Int) + ((tt - 0 : Nat) : Int)) + (((k - sk) - tt : Nat) : Int))), (Value.nilIface)])) (run_results2 rfl rfl rfl) ?_
          have H118_ : Holds w110_ (ro R :: cl pw 142 [(Value.iface 89 (Value.pointer (some ⟨bl, 0, none⟩))), (Value.int .i64 (po75_ : Int)), (Value.int .i64 (page : Int)), (Value.int .i64 ((List.length ([] ++ ((List.drop tt ((List.drop sk ns).take (k - sk))).take ((k - sk) - tt))) : Nat) : Int)), (Value.slice (some ⟨bb, 0, none⟩) (wm + page) (wm + page)), (Value.int .i64 (wm : Int))] :: cl bb 5 (bytesV ([] ++ ((List.drop tt ((List.drop sk ns).take (k - sk))).take ((k - sk) - tt))) ++ junk108_) :: cl bl 91 [V96_] :: sl 9 1 V96_ (List.length (ws ++ (ws78_ ++ [(List.drop 0 ((List.drop sk ns).take (k - sk))).take (tt - 0)]))) (strs (ws ++ (ws78_ ++ [(List.drop 0 ((List.drop sk ns).take (k - sk))).take (tt - 0)]))) :: F) := cast2 (P := fun (c__ : List Value) (k__ : Nat) => Holds w110_ (ro R :: cl pw 142 [(Value.iface 89 (Value.pointer (some ⟨bl, 0, none⟩))), (Value.int .i64 (po75_ : Int)), (Value.int .i64 (page : Int)), (Value.int .i64 ((List.length ([] ++ ((List.drop tt ((List.drop sk ns).take (k - sk))).take ((k - sk) - tt))) : Nat) : Int)), (Value.slice (some ⟨bb, 0, none⟩) (wm + page) (wm + page)), (Value.int .i64 (wm : Int))] :: cl bb 5 (bytesV ([] ++ ((List.drop tt ((List.drop sk ns).take (k - sk))).take ((k - sk) - tt))) ++ junk108_) :: cl bl 91 [V96_] :: sl 9 1 V96_ k__ c__ :: F)) (by rw [List.append_assoc] : strs ((ws ++ ws78_) ++ [(List.drop 0 ((List.drop sk ns).take (k - sk))).take (tt - 0)]) = strs (ws ++ (ws78_ ++ [(List.drop 0 ((List.drop sk ns).take (k - sk))).take (tt - 0)]))) (by rw [List.append_assoc] : List.length ((ws ++ ws78_) ++ [(List.drop 0 ((List.drop sk ns).take (k - sk))).take (tt - 0)]) = List.length (ws ++ (ws78_ ++ [(List.drop 0 ((List.drop sk ns).take (k - sk))).take (tt - 0)]))) H111_
          have hs2 : ((List.drop 0 ((List.drop sk ns).take (k - sk))).take (tt - 0)).length = tt := by simp only [List.length_take, List.length_drop]; omega
          have hfl : ((List.drop tt ((List.drop sk ns).take (k - sk))).take ((k - sk) - tt)).length = ((k - sk) - tt) := RS.blen (RS.slcB (RS.slcB hP (by omega : sk ≤ k) (by omega : k ≤ k)) (by omega : tt ≤ (k - sk)) (by omega : (k - sk) ≤ (k - sk)))
          exact ⟨_, [cl pw 142 [(Value.iface 89 (Value.pointer (some ⟨bl, 0, none⟩))), (Value.int .i64 (po75_ : Int)), (Value.int .i64 (page : Int)), (Value.int .i64 ((List.length ([] ++ ((List.drop tt ((List.drop sk ns).take (k - sk))).take ((k - sk) - tt))) : Nat) : Int)), (Value.slice (some ⟨bb, 0, none⟩) (wm + page) (wm + page)), (Value.int .i64 (wm : Int))], cl bb 5 (bytesV ([] ++ ((List.drop tt ((List.drop sk ns).take (k - sk))).take ((k - sk) - tt))) ++ junk108_), cl bl 91 [V96_], sl 9 1 V96_ (List.length (ws ++ (ws78_ ++ [(List.drop 0 ((List.drop sk ns).take (k - sk))).take (tt - 0)]))) (strs (ws ++ (ws78_ ++ [(List.drop 0 ((List.drop sk ns).take (k - sk))).take (tt - 0)])))], rfl, ⟨_, po75_, [] ++ ((List.drop tt ((List.drop sk ns).take (k - sk))).take ((k - sk) - tt)), junk108_, V96_, (ws78_ ++ [(List.drop 0 ((List.drop sk ns).take (k - sk))).take (tt - 0)]), rfl, rfl, WOk.over (by omega) (by omega) (by omega) (by rw [List.length_append, hpc, ← Nat.add_assoc, ← hsk]; exact mod_fill (by omega) hr) hpo1 hf79_ (.inr ⟨_, rfl, fun h => by rw [h] at hs2; simp at hs2; omega, by rw [hs2]; exact hq4⟩) (by rw [List.nil_append]; omega) (by simp only [tot, List.map_cons, List.map_nil, List.sum_cons, List.sum_nil, List.nil_append, List.length_append, hfl, hs2, hpc]; omega), (fun h => absurd h (by omega)), by rw [hj_junk108_, List.nil_append, List.length_drop]; omega⟩, S115_, H118_⟩
        · have c91_fp : ¬ ((page : Int) < ((k - sk : Nat) : Int)) := of_decide_eq_false c91_f
          refine C_skip (X_then (hK89_ _ _ ?_))
          clear hK89_
          refine C_seq (fun K119_ hK119_ => ?_)
          refine C_reg ?_
          refine S_list (T_val (v := (Value.pointer (some ⟨pw, 0, none⟩))) (x_move rfl) ?_)
          refine S_list (T_val (v := (slc p sk k 1)) (x_move rfl) ?_)
          refine S_list (T_call (al := [(Value.pointer (some ⟨pw, 0, none⟩)), (slc p sk k 1)]) (pre := [cl pw 142 [(Value.iface 89 (Value.pointer (some ⟨bl, 0, none⟩))), (Value.int .i64 (po75_ : Int)), (Value.int .i64 (page : Int)), (Value.int .i64 0), (Value.slice (some ⟨bb, 0, none⟩) (wm + page) (wm + page)), (Value.int .i64 (wm : Int))], cl bb 5 (bytesV [] ++ junk76_), cl bl 91 [V77_], sl 9 1 V77_ (List.length (ws ++ ws78_)) (strs (ws ++ ws78_))]) (F := F) rfl rfl cb56 (kWriteFit R pw bb bl page wm po75_ [] junk76_ V77_ (ws ++ ws78_) (slc p sk k 1) (k - sk) ((List.drop sk ns).take (k - sk)) (RS.slcB hP (by omega : sk ≤ k) (by omega : k ≤ k)) (by omega) (by omega) (by omega) (by omega) (by omega) (by simp; omega) (by simp; omega) (by simp; omega)) H82_ ?_)
          rintro v124_ p125_ w121_ ⟨junk120_, rfl, rfl, hj_junk120_⟩ S123_ H122_
          replace H122_ : Holds w121_ (ro R :: cl pw 142 [(Value.iface 89 (Value.pointer (some ⟨bl, 0, none⟩))), (Value.int .i64 (po75_ : Int)), (Value.int .i64 (page : Int)), (Value.int .i64 ((List.length ([] ++ ((List.drop sk ns).take (k - sk))) : Nat) : Int)), (Value.slice (some ⟨bb, 0, none⟩) (wm + page) (wm + page)), (Value.int .i64 (wm : Int))] :: cl bb 5 (bytesV ([] ++ ((List.drop sk ns).take (k - sk))) ++ junk120_) :: cl bl 91 [V77_] :: sl 9 1 V77_ (List.length (ws ++ ws78_)) (strs (ws ++ ws78_)) :: F) := H122_
          have S126_ := Same.trans S86_ S123_
          refine S_list (T_val (v := (Value.tuple #[(Value.int .i64 ((k - sk : Nat) : Int)), (Value.nilIface)])) (x_move rfl) ?_)
          refine S_list (T_val (v := (Value.int .i64 ((k - sk : Nat) : Int))) (by kernel_rfl) ?_)
          refine S_list (T_val (v := (Value.nilIface)) (by kernel_rfl) ?_)
          refine S_list (T_val (v := (Value.int .i64 ((k - sk : Nat) : Int))) (x_assign rfl) ?_)
          refine S_list (T_val (v := (Value.nilIface)) (x_assign rfl) ?_)
          refine wpList_nil ?_
          refine (X_then (hK119_ _ _ ?_))
          clear hK119_
          refine C_seq (fun K127_ hK127_ => ?_)
          refine C_reg ?_
          refine S_list (T_val (v := (Value.int .i64 (sk : Int))) (x_move rfl) ?_)
          refine S_list (T_val (v := (Value.int .i64 ((k - sk : Nat) : Int))) (x_move rfl) ?_)
          refine S_list (T_val (v := (Value.int .i64 ((sk : Int) + ((k - sk : Nat) : Int)))) (x_bin rfl rfl (ib_add (IntWalk.i64_in _ (by omega)))) ?_)
          refine S_list (T_val (v := (Value.int .i64 ((sk : Int) + ((k - sk : Nat) : Int)))) (x_assign rfl) ?_)
          refine wpList_nil ?_
          refine (X_then (hK127_ _ _ ?_))
          clear hK127_
          refine C_seq (fun K128_ hK128_ => ?_)
          refine C_reg ?_
          refine S_list (T_val (v := (Value.int .i64 ((sk : Int) + ((k - sk : Nat) : Int)))) (x_move rfl) ?_)
          refine S_list (T_val (v := (Value.nilIface)) (x_move rfl) ?_)
          refine S_list (T_val (v := (Value.int .i64 ((sk : Int) + ((k - sk : Nat) : Int)))) (x_assign rfl) ?_)
          refine S_list (T_val (v := (Value.nilIface)) (x_assign rfl) ?_)
          refine wpList_nil ?_
          refine (X_then (hK128_ _ _ ?_))
          clear hK128_
          refine C_ret ?_
          refine R_any (v := (Value.tuple #[(Value.int .i64 ((sk : Int) + ((k - sk : Nat) : Int))), (Value.nilIface)])) (run_results2 rfl rfl rfl) ?_
          have H129_ : Holds w121_ (ro R :: cl pw 142 [(Value.iface 89 (Value.pointer (some ⟨bl, 0, none⟩))), (Value.int .i64 (po75_ : Int)), (Value.int .i64 (page : Int)), (Value.int .i64 ((List.length ([] ++ ((List.drop sk ns).take (k - sk))) : Nat) : Int)), (Value.slice (some ⟨bb, 0, none⟩) (wm + page) (wm + page)), (Value.int .i64 (wm : Int))] :: cl bb 5 (bytesV ([] ++ ((List.drop sk ns).take (k - sk))) ++ junk120_) :: cl bl 91 [V77_] :: sl 9 1 V77_ (List.length (ws ++ (ws78_ ++ []))) (strs (ws ++ (ws78_ ++ []))) :: F) := cast2 (P := fun (c__ : List Value) (k__ : Nat) => Holds w121_ (ro R :: cl pw 142 [(Value.iface 89 (Value.pointer (some ⟨bl, 0, none⟩))), (Value.int .i64 (po75_ : Int)), (Value.int .i64 (page : Int)), (Value.int .i64 ((List.length ([] ++ ((List.drop sk ns).take (k - sk))) : Nat) : Int)), (Value.slice (some ⟨bb, 0, none⟩) (wm + page) (wm + page)), (Value.int .i64 (wm : Int))] :: cl bb 5 (bytesV ([] ++ ((List.drop sk ns).take (k - sk))) ++ junk120_) :: cl bl 91 [V77_] :: sl 9 1 V77_ k__ c__ :: F)) (by simp : strs (ws ++ ws78_) = strs (ws ++ (ws78_ ++ []))) (by simp : List.length (ws ++ ws78_) = List.length (ws ++ (ws78_ ++ []))) H122_
          have hfl : ((List.drop sk ns).take (k - sk)).length = (k - sk) := RS.blen (RS.slcB hP (by omega : sk ≤ k) (by omega : k ≤ k))
          exact ⟨_, [cl pw 142 [(Value.iface 89 (Value.pointer (some ⟨bl, 0, none⟩))), (Value.int .i64 (po75_ : Int)), (Value.int .i64 (page : Int)), (Value.int .i64 ((List.length ([] ++ ((List.drop sk ns).take (k - sk))) : Nat) : Int)), (Value.slice (some ⟨bb, 0, none⟩) (wm + page) (wm + page)), (Value.int .i64 (wm : Int))], cl bb 5 (bytesV ([] ++ ((List.drop sk ns).take (k - sk))) ++ junk120_), cl bl 91 [V77_], sl 9 1 V77_ (List.length (ws ++ (ws78_ ++ []))) (strs (ws ++ (ws78_ ++ [])))], rfl, ⟨_, po75_, [] ++ ((List.drop sk ns).take (k - sk)), junk120_, V77_, (ws78_ ++ []), rfl, rfl, WOk.over (by omega) (by omega) (by omega) (by rw [List.length_append, hpc, ← Nat.add_assoc, ← hsk]; exact mod_fill (by omega) hr) hpo1 hf79_ (.inl rfl) (by rw [List.nil_append]; omega) (by simp only [tot, List.map_cons, List.map_nil, List.sum_cons, List.sum_nil, List.nil_append, List.length_append, hfl, hpc]; omega), (fun h => absurd h (by omega)), by rw [hj_junk120_, List.nil_append, List.length_drop]; omega⟩, S126_, H129_⟩
    · have c28_fp : ¬ ((sk : Int) ≠ (page : Int)) := of_decide_eq_false c28_f
      refine C_skip (X_then (hK26_ _ _ ?_))
      clear hK26_
      refine C_seq (fun K130_ hK130_ => ?_)
      refine C_seq (fun K131_ hK131_ => ?_)
      refine C_reg ?_
      refine S_list (T_val (v := (Value.pointer (some ⟨pw, 0, none⟩))) (x_move rfl) ?_)
      refine S_list (T_callW (al := [(Value.pointer (some ⟨pw, 0, none⟩))]) rfl rfl cb55 (Calls.into (n := 11) (al := [(Value.pointer (some ⟨pw, 0, none⟩))]) Try.func55 rfl Try.ntmps55 rfl rfl ?_))
      refine C_seq (fun K132_ hK132_ => ?_)
      refine C_reg ?_
      refine S_list (T_val (v := (Value.nilIface)) (x_assign rfl) ?_)
      refine wpList_nil ?_
      refine (X_then (hK132_ _ _ ?_))
      clear hK132_
      refine C_seq (fun K133_ hK133_ => ?_)
      refine C_reg ?_
      refine S_list (T_val (v := (Value.pointer (some ⟨pw, 0, none⟩))) (x_move rfl) ?_)
      refine S_list (T_call (al := [(Value.pointer (some ⟨pw, 0, none⟩))]) (pre := [cl pw 142 [(Value.iface 89 (Value.pointer (some ⟨bl, 0, none⟩))), (Value.int .i64 (po : Int)), (Value.int .i64 (page : Int)), (Value.int .i64 (pd.length : Int)), (Value.slice (some ⟨bb, 0, none⟩) (wm + page) (wm + page)), (Value.int .i64 (wm : Int))], cl bb 5 (bytesV pd ++ junk), cl bl 91 [V], sl 9 1 V ws.length (strs ws)]) (F := F) rfl rfl cb70 (kFlush R pw bb bl page wm po pd junk V ws (by omega) (by omega) (by omega) (by omega) (by omega) (by first | omega | (rw [List.length_append, List.length_drop, hpc]; omega)) (by omega) (by first | omega | (rw [List.length_append, hpc]; omega))) H25_ ?_)
      rintro v144_ p145_ w141_ ⟨nn134_, po135_, junk136_, V137_, ws138_, rfl, rfl, hf139_, hj140_⟩ S143_ H142_
      replace H142_ : Holds w141_ (ro R :: cl pw 142 [(Value.iface 89 (Value.pointer (some ⟨bl, 0, none⟩))), (Value.int .i64 (po135_ : Int)), (Value.int .i64 (page : Int)), (Value.int .i64 0), (Value.slice (some ⟨bb, 0, none⟩) (wm + page) (wm + page)), (Value.int .i64 (wm : Int))] :: cl bb 5 (bytesV [] ++ junk136_) :: cl bl 91 [V137_] :: sl 9 1 V137_ (List.length (ws ++ ws138_)) (strs (ws ++ ws138_)) :: F) := H142_
      have S146_ := Same.trans (Same.trans (Same.trans (Same.refl w) (Same.drew _)) (Same.drew _)) S143_
      have := FOk.len hf139_
      have hpo1 := FOk.po (by omega) hf139_
      refine S_list (T_val (v := (Value.tuple #[(Value.int .i64 nn134_), (Value.nilIface)])) (x_move rfl) ?_)
      refine S_list (T_val (v := (Value.int .i64 nn134_)) (by kernel_rfl) ?_)
      refine S_list (T_val (v := (Value.nilIface)) (by kernel_rfl) ?_)
      refine S_list (T_val (v := (Value.int .i64 nn134_)) (x_assign rfl) ?_)
      refine S_list (T_val (v := (Value.nilIface)) (x_assign rfl) ?_)
      refine wpList_nil ?_
      refine (X_then (hK133_ _ _ ?_))
      clear hK133_
      refine C_seq (fun K147_ hK147_ => ?_)
      refine C_reg ?_
      refine S_list (T_val (v := (Value.nilIface)) (x_move rfl) ?_)
      refine S_list (T_val (v := (Value.nilIface)) (x_assign rfl) ?_)
      refine wpList_nil ?_
      refine (X_then (hK147_ _ _ ?_))
      clear hK147_
      refine C_ret ?_
      refine R_any (v := (Value.nilIface)) (run_results1 rfl rfl) ⟨_, rfl, ?_⟩
      refine S_list (T_val (v := (Value.nilIface)) (x_assign rfl) ?_)
      refine wpList_nil ?_
      refine (X_then (hK131_ _ _ ?_))
      clear hK131_
      refine C_seq (fun K148_ hK148_ => ?_)
      refine C_reg ?_
      refine S_list (T_val (v := (Value.nilIface)) (x_move rfl) ?_)
      refine S_list (T_val (v := (Value.bool false)) (by kernel_rfl) ?_)
      refine wpList_nil ?_
      refine (X_then (hK148_ _ _ ?_))
      clear hK148_
      refine C_condF rfl ?_
      refine C_skip (X_then (hK130_ _ _ ?_))
      clear hK130_
      refine C_seq (fun K149_ hK149_ => ?_)
      refine C_seq (fun K150_ hK150_ => ?_)
      refine C_reg ?_
      refine S_list (T_val (v := p) (x_move rfl) ?_)
      refine S_list (T_val (v := (Value.int .i64 (k : Int))) (x_lenRS rfl hP Try.underlying25) ?_)
      refine S_list (T_val (v := (Value.pointer (some ⟨pw, 0, none⟩))) (x_move rfl) ?_)
      refine S_list (T_val (v := (Value.pointer (some ⟨pw, 0, none⟩))) (by kernel_rfl) ?_)
      refine S_list (T_val (v := (Value.pointer (some ⟨pw, 2, none⟩))) (by kernel_rfl) ?_)
      refine S_list (T_val (v := (Value.int .i64 (page : Int))) (x_load1 rfl Try.underlying3 rfl ((Holds.rd H142_ 1 rfl) 2 (Value.int .i64 (page : Int)) rfl)) ?_)
      refine S_list (T_val (v := (Value.bool (decide ((page : Int) < (k : Int))))) (x_bin rfl rfl rfl) ?_)
      refine wpList_nil ?_
      refine (X_then (hK150_ _ _ ?_))
      clear hK150_
      refine C_cond (b := decide ((page : Int) < (k : Int))) rfl (fun c151_t => ?_) (fun c151_f => ?_)
      · have c151_tp : (page : Int) < (k : Int) := of_decide_eq_true c151_t
        refine C_seq (fun K152_ hK152_ => ?_)
        refine C_reg ?_
        refine S_list (T_val (v := p) (x_move rfl) ?_)
        refine S_list (T_val (v := (Value.int .i64 (k : Int))) (x_lenRS rfl hP Try.underlying25) ?_)
        refine S_list (T_val (v := (Value.pointer (some ⟨pw, 0, none⟩))) (x_move rfl) ?_)
        refine S_list (T_val (v := (Value.pointer (some ⟨pw, 0, none⟩))) (by kernel_rfl) ?_)
        refine S_list (T_val (v := (Value.pointer (some ⟨pw, 2, none⟩))) (by kernel_rfl) ?_)
        refine S_list (T_val (v := (Value.int .i64 (page : Int))) (x_load1 rfl Try.underlying3 rfl ((Holds.rd H142_ 1 rfl) 2 (Value.int .i64 (page : Int)) rfl)) ?_)
        obtain ⟨q, hq⟩ : ∃ q, k / page = q := ⟨_, rfl⟩
        obtain ⟨tt, htt⟩ : ∃ t, q * page = t := ⟨_, rfl⟩
        obtain ⟨hq1, hq2, hq3, hq4⟩ := quo_facts (L := k) (by omega) (by omega) hq htt
        refine S_list (T_val (v := (Value.int .i64 (q : Int))) (x_bin rfl rfl (ib_quoN (x := k) (y := page) (r := q) (by omega) (by omega) (by omega) (by omega) hq)) ?_)
        refine S_list (T_val (v := (Value.int .i64 (q : Int))) (x_assign rfl) ?_)
        refine wpList_nil ?_
        refine (X_then (hK152_ _ _ ?_))
        clear hK152_
        refine C_seq (fun K153_ hK153_ => ?_)
        refine A_start (S := fun w => Rd pw [(Value.iface 89 (Value.pointer (some ⟨bl, 0, none⟩))), (Value.int .i64 (po135_ : Int)), (Value.int .i64 (page : Int)), (Value.int .i64 0), (Value.slice (some ⟨bb, 0, none⟩) (wm + page) (wm + page)), (Value.int .i64 (wm : Int))] w ∧ Sub R (hp w)) (N := 20) foll rfl rfl ?_
        have H155_ : Holds w141_.drew (ro R :: cl pw 142 [(Value.iface 89 (Value.pointer (some ⟨bl, 0, none⟩))), (Value.int .i64 (po135_ : Int)), (Value.int .i64 (page : Int)), (Value.int .i64 0), (Value.slice (some ⟨bb, 0, none⟩) (wm + page) (wm + page)), (Value.int .i64 (wm : Int))] :: cl bb 5 (bytesV [] ++ junk136_) :: cl bl 91 [V137_] :: sl 9 1 V137_ (List.length (ws ++ ws138_)) (strs (ws ++ ws138_)) :: F) := H142_
        refine A_take 0 (ls' := #[true, false, false, false, false, false, false, false, false, false, false, false, false, false, false, false, false, false, false, false]) (v := (Value.pointer (some ⟨pw, 0, none⟩))) rfl (by kernel_rfl) (by kernel_rfl) (by kernel_rfl) (by kernel_rfl) (fun _ _ _ h => h) (fun w hS => x_move rfl) ⟨Holds.rd H155_ 1 rfl, Holds.ro_at H155_ 0 rfl⟩ ?_
        refine A_take 1 (ls' := #[true, true, false, false, false, false, false, false, false, false, false, false, false, false, false, false, false, false, false, false]) (v := (Value.pointer (some ⟨pw, 0, none⟩))) rfl (by kernel_rfl) (by kernel_rfl) (by kernel_rfl) (by kernel_rfl) (fun _ _ _ h => h) (fun w hS => by kernel_rfl) ⟨Holds.rd H155_ 1 rfl, Holds.ro_at H155_ 0 rfl⟩ ?_
        refine A_take 2 (ls' := #[true, true, true, false, false, false, false, false, false, false, false, false, false, false, false, false, false, false, false, false]) (v := (Value.pointer (some ⟨pw, 0, none⟩))) rfl (by kernel_rfl) (by kernel_rfl) (by kernel_rfl) (by kernel_rfl) (fun _ _ _ h => h) (fun w hS => by kernel_rfl) ⟨Holds.rd H155_ 1 rfl, Holds.ro_at H155_ 0 rfl⟩ ?_
        refine A_take 3 (ls' := #[true, true, true, true, false, false, false, false, false, false, false, false, false, false, false, false, false, false, false, false]) (v := (Value.iface 89 (Value.pointer (some ⟨bl, 0, none⟩)))) rfl (by kernel_rfl) (by kernel_rfl) (by kernel_rfl) (by kernel_rfl) (fun _ _ _ h => h) (fun w hS => x_load1 rfl Try.underlying139 rfl (hS.1 0 (Value.iface 89 (Value.pointer (some ⟨bl, 0, none⟩))) rfl)) ⟨Holds.rd H155_ 1 rfl, Holds.ro_at H155_ 0 rfl⟩ ?_
        refine A_take 4 (ls' := #[true, true, true, true, true, false, false, false, false, false, false, false, false, false, false, false, false, false, false, false]) (v := p) rfl (by kernel_rfl) (by kernel_rfl) (by kernel_rfl) (by kernel_rfl) (fun _ _ _ h => h) (fun w hS => x_move rfl) ⟨Holds.rd H155_ 1 rfl, Holds.ro_at H155_ 0 rfl⟩ ?_
        refine A_take 5 (ls' := #[true, true, true, true, true, true, false, false, false, false, false, false, false, false, false, false, false, false, false, false]) (v := (Value.int .i64 (q : Int))) rfl (by kernel_rfl) (by kernel_rfl) (by kernel_rfl) (by kernel_rfl) (fun _ _ _ h => h) (fun w hS => x_move rfl) ⟨Holds.rd H155_ 1 rfl, Holds.ro_at H155_ 0 rfl⟩ ?_
        refine A_take 6 (ls' := #[true, true, true, true, true, true, true, false, false, false, false, false, false, false, false, false, false, false, false, false]) (v := (Value.pointer (some ⟨pw, 0, none⟩))) rfl (by kernel_rfl) (by kernel_rfl) (by kernel_rfl) (by kernel_rfl) (fun _ _ _ h => h) (fun w hS => x_move rfl) ⟨Holds.rd H155_ 1 rfl, Holds.ro_at H155_ 0 rfl⟩ ?_
        refine A_take 7 (ls' := #[true, true, true, true, true, true, true, true, false, false, false, false, false, false, false, false, false, false, false, false]) (v := (Value.pointer (some ⟨pw, 0, none⟩))) rfl (by kernel_rfl) (by kernel_rfl) (by kernel_rfl) (by kernel_rfl) (fun _ _ _ h => h) (fun w hS => by kernel_rfl) ⟨Holds.rd H155_ 1 rfl, Holds.ro_at H155_ 0 rfl⟩ ?_
        refine A_take 8 (ls' := #[true, true, true, true, true, true, true, true, true, false, false, false, false, false, false, false, false, false, false, false]) (v := (Value.pointer (some ⟨pw, 2, none⟩))) rfl (by kernel_rfl) (by kernel_rfl) (by kernel_rfl) (by kernel_rfl) (fun _ _ _ h => h) (fun w hS => by kernel_rfl) ⟨Holds.rd H155_ 1 rfl, Holds.ro_at H155_ 0 rfl⟩ ?_
        refine A_take 9 (ls' := #[true, true, true, true, true, true, true, true, true, true, false, false, false, false, false, false, false, false, false, false]) (v := (Value.int .i64 (page : Int))) rfl (by kernel_rfl) (by kernel_rfl) (by kernel_rfl) (by kernel_rfl) (fun _ _ _ h => h) (fun w hS => x_load1 rfl Try.underlying3 rfl (hS.1 2 (Value.int .i64 (page : Int)) rfl)) ⟨Holds.rd H155_ 1 rfl, Holds.ro_at H155_ 0 rfl⟩ ?_
        refine A_take 10 (ls' := #[true, true, true, true, true, true, true, true, true, true, true, false, false, false, false, false, false, false, false, false]) (v := (Value.int .i64 (tt : Int))) rfl (by kernel_rfl) (by kernel_rfl) (by kernel_rfl) (by kernel_rfl) (fun _ _ _ h => h) (fun w hS => x_bin rfl rfl (ib_mulN (x := q) (y := page) (r := tt) rfl rfl htt (by omega))) ⟨Holds.rd H155_ 1 rfl, Holds.ro_at H155_ 0 rfl⟩ ?_
        refine A_take 11 (ls' := #[true, true, true, true, true, true, true, true, true, true, true, true, false, false, false, false, false, false, false, false]) (v := (slc p 0 tt 1)) rfl (by kernel_rfl) (by kernel_rfl) (by kernel_rfl) (by kernel_rfl) (fun _ _ _ h => h) (fun w hS => x_sliceRS (l := 0) (h := tt) rfl hP Try.underlying25 z5 (by omega) ⟨_, _, rfl, by omega, by omega, by omega⟩ rfl) ⟨Holds.rd H155_ 1 rfl, Holds.ro_at H155_ 0 rfl⟩ ?_
        refine A_take 12 (ls' := #[true, true, true, true, true, true, true, true, true, true, true, true, true, false, false, false, false, false, false, false]) (v := (Value.iface 89 (Value.pointer (some ⟨bl, 0, none⟩)))) rfl (by kernel_rfl) (by kernel_rfl) (by kernel_rfl) (by kernel_rfl) (fun _ _ _ h => h) (fun w hS => by kernel_rfl) ⟨Holds.rd H155_ 1 rfl, Holds.ro_at H155_ 0 rfl⟩ ?_
        refine A_take 13 (ls' := #[true, true, true, true, true, true, true, true, true, true, true, true, true, true, false, false, false, false, false, false]) (v := (Value.iface 89 (Value.pointer (some ⟨bl, 0, none⟩)))) rfl (by kernel_rfl) (by kernel_rfl) (by kernel_rfl) (by kernel_rfl) (fun _ _ _ h => h) (fun w hS => x_move rfl) ⟨Holds.rd H155_ 1 rfl, Holds.ro_at H155_ 0 rfl⟩ ?_
        refine A_ready (i := 14) (rs := []) (by kernel_rfl) ?_
        refine AllR.cons ?_ AllR.nil
        have H157_ : Holds w141_.drew (ro R :: cl bl 91 [V137_] :: sl 9 1 V137_ (List.length (ws ++ ws138_)) (strs (ws ++ ws138_)) :: cl pw 142 [(Value.iface 89 (Value.pointer (some ⟨bl, 0, none⟩))), (Value.int .i64 (po135_ : Int)), (Value.int .i64 (page : Int)), (Value.int .i64 0), (Value.slice (some ⟨bb, 0, none⟩) (wm + page) (wm + page)), (Value.int .i64 (wm : Int))] :: cl bb 5 (bytesV [] ++ junk136_) :: F) := (Holds.bring (Holds.bring (Holds.bring H155_ 4 rfl) 4 rfl) 2 rfl)
        refine A_op (ls' := #[true, true, true, true, true, true, true, true, true, true, true, true, true, true, true, false, false, false, false, false]) rfl (by kernel_rfl) (T_invoke (al := [(Value.pointer (some ⟨bl, 0, none⟩)), (slc p 0 tt 1)]) (pre := [cl bl 91 [V137_], sl 9 1 V137_ (List.length (ws ++ ws138_)) (strs (ws ++ ws138_))]) (F := cl pw 142 [(Value.iface 89 (Value.pointer (some ⟨bl, 0, none⟩))), (Value.int .i64 (po135_ : Int)), (Value.int .i64 (page : Int)), (Value.int .i64 0), (Value.slice (some ⟨bb, 0, none⟩) (wm + page) (wm + page)), (Value.int .i64 (wm : Int))] :: cl bb 5 (bytesV [] ++ junk136_) :: F) rfl (fun w => by kernel_rfl) rfl cb95 (kBelow R bl (slc p 0 tt 1) V137_ (tt - 0) ((List.drop 0 ns).take (tt - 0)) (ws ++ ws138_) (RS.slcB hP (by omega : 0 ≤ tt) (by omega : tt ≤ k)) (by first | omega | (simp; omega))) H157_ ?_)
        rintro v161_ p162_ w158_ ⟨V156_, rfl, rfl⟩ S160_ H159_
        replace H159_ : Holds w158_ (ro R :: cl bl 91 [V156_] :: sl 9 1 V156_ (List.length ((ws ++ ws138_) ++ [(List.drop 0 ns).take (tt - 0)])) (strs ((ws ++ ws138_) ++ [(List.drop 0 ns).take (tt - 0)])) :: cl pw 142 [(Value.iface 89 (Value.pointer (some ⟨bl, 0, none⟩))), (Value.int .i64 (po135_ : Int)), (Value.int .i64 (page : Int)), (Value.int .i64 0), (Value.slice (some ⟨bb, 0, none⟩) (wm + page) (wm + page)), (Value.int .i64 (wm : Int))] :: cl bb 5 (bytesV [] ++ junk136_) :: F) := H159_
        have S163_ := Same.trans (Same.trans S146_ (Same.drew _)) S160_
        refine ⟨⟨Holds.rd H159_ 3 rfl, Holds.ro_at H159_ 0 rfl⟩, ?_⟩
        refine A_take 15 (ls' := #[true, true, true, true, true, true, true, true, true, true, true, true, true, true, true, true, false, false, false, false]) (v := (Value.tuple #[(Value.int .i64 ((tt - 0 : Nat) : Int)), (Value.nilIface)])) rfl (by kernel_rfl) (by kernel_rfl) (by kernel_rfl) (by kernel_rfl) (fun _ _ _ h => h) (fun w hS => x_move rfl) ⟨Holds.rd H159_ 3 rfl, Holds.ro_at H159_ 0 rfl⟩ ?_
        refine A_take 16 (ls' := #[true, true, true, true, true, true, true, true, true, true, true, true, true, true, true, true, true, false, false, false]) (v := (Value.int .i64 ((tt - 0 : Nat) : Int))) rfl (by kernel_rfl) (by kernel_rfl) (by kernel_rfl) (by kernel_rfl) (fun _ _ _ h => h) (fun w hS => by kernel_rfl) ⟨Holds.rd H159_ 3 rfl, Holds.ro_at H159_ 0 rfl⟩ ?_
        refine A_take 17 (ls' := #[true, true, true, true, true, true, true, true, true, true, true, true, true, true, true, true, true, true, false, false]) (v := (Value.nilIface)) rfl (by kernel_rfl) (by kernel_rfl) (by kernel_rfl) (by kernel_rfl) (fun _ _ _ h => h) (fun w hS => by kernel_rfl) ⟨Holds.rd H159_ 3 rfl, Holds.ro_at H159_ 0 rfl⟩ ?_
        refine A_take 18 (ls' := #[true, true, true, true, true, true, true, true, true, true, true, true, true, true, true, true, true, true, true, false]) (v := (Value.int .i64 ((tt - 0 : Nat) : Int))) rfl (by kernel_rfl) (by kernel_rfl) (by kernel_rfl) (by kernel_rfl) (fun _ _ _ h => h) (fun w hS => x_assign rfl) ⟨Holds.rd H159_ 3 rfl, Holds.ro_at H159_ 0 rfl⟩ ?_
        refine A_take 19 (ls' := #[true, true, true, true, true, true, true, true, true, true, true, true, true, true, true, true, true, true, true, true]) (v := (Value.nilIface)) rfl (by kernel_rfl) (by kernel_rfl) (by kernel_rfl) (by kernel_rfl) (fun _ _ _ h => h) (fun w hS => x_assign rfl) ⟨Holds.rd H159_ 3 rfl, Holds.ro_at H159_ 0 rfl⟩ ?_
        refine A_done (by kernel_rfl) ?_
        refine (X_then (hK153_ _ _ ?_))
        clear hK153_
        refine C_seq (fun K164_ hK164_ => ?_)
        refine C_reg ?_
        refine S_list (T_val (v := (Value.int .i64 0)) (x_move rfl) ?_)
        refine S_list (T_val (v := (Value.int .i64 ((tt - 0 : Nat) : Int))) (x_move rfl) ?_)
        refine S_list (T_val (v := (Value.int .i64 (0 + ((tt - 0 : Nat) : Int)))) (x_bin rfl rfl (ib_add (IntWalk.i64_in _ (by omega)))) ?_)
        refine S_list (T_val (v := (Value.int .i64 (0 + ((tt - 0 : Nat) : Int)))) (x_assign rfl) ?_)
        refine wpList_nil ?_
        refine (X_then (hK164_ _ _ ?_))
        clear hK164_
        refine C_seq (fun K165_ hK165_ => ?_)
        refine C_seq (fun K166_ hK166_ => ?_)
        refine C_reg ?_
        refine S_list (T_val (v := (Value.nilIface)) (x_move rfl) ?_)
        refine S_list (T_val (v := (Value.bool false)) (by kernel_rfl) ?_)
        refine wpList_nil ?_
        refine (X_then (hK166_ _ _ ?_))
        clear hK166_
        refine C_condF rfl ?_
        refine C_skip (X_then (hK165_ _ _ ?_))
        clear hK165_
        refine C_reg ?_
        refine S_list (T_val (v := p) (x_move rfl) ?_)
        refine S_list (T_val (v := (Value.int .i64 (q : Int))) (x_move rfl) ?_)
        refine S_list (T_val (v := (Value.pointer (some ⟨pw, 0, none⟩))) (x_move rfl) ?_)
        refine S_list (T_val (v := (Value.pointer (some ⟨pw, 0, none⟩))) (by kernel_rfl) ?_)
        refine S_list (T_val (v := (Value.pointer (some ⟨pw, 2, none⟩))) (by kernel_rfl) ?_)
        refine S_list (T_val (v := (Value.int .i64 (page : Int))) (x_load1 rfl Try.underlying3 rfl ((Holds.rd H159_ 3 rfl) 2 (Value.int .i64 (page : Int)) rfl)) ?_)
        refine S_list (T_val (v := (Value.int .i64 (tt : Int))) (x_bin rfl rfl (ib_mulN (x := q) (y := page) (r := tt) rfl rfl htt (by omega))) ?_)
        refine S_list (T_val (v := (slc p tt k 1)) (x_sliceRS (l := tt) (h := k) rfl hP Try.underlying25 z5 (by omega) rfl ⟨_, _, rfl, by omega, by omega, by omega⟩) ?_)
        refine S_list (T_val (v := (slc p tt k 1)) (x_assign rfl) ?_)
        refine wpList_nil ?_
        refine (X_then (hK149_ _ _ ?_))
        clear hK149_
        refine C_seq (fun K167_ hK167_ => ?_)
        refine C_reg ?_
        refine S_list (T_val (v := (Value.pointer (some ⟨pw, 0, none⟩))) (x_move rfl) ?_)
        refine S_list (T_val (v := (slc p tt k 1)) (x_move rfl) ?_)
        have H169_ : Holds w158_ (ro R :: cl pw 142 [(Value.iface 89 (Value.pointer (some ⟨bl, 0, none⟩))), (Value.int .i64 (po135_ : Int)), (Value.int .i64 (page : Int)), (Value.int .i64 0), (Value.slice (some ⟨bb, 0, none⟩) (wm + page) (wm + page)), (Value.int .i64 (wm : Int))] :: cl bb 5 (bytesV [] ++ junk136_) :: cl bl 91 [V156_] :: sl 9 1 V156_ (List.length ((ws ++ ws138_) ++ [(List.drop 0 ns).take (tt - 0)])) (strs ((ws ++ ws138_) ++ [(List.drop 0 ns).take (tt - 0)])) :: F) := (Holds.bring (Holds.bring (Holds.bring (Holds.bring (Holds.bring H159_ 2 rfl) 2 rfl) 4 rfl) 4 rfl) 4 rfl)
        refine S_list (T_call (al := [(Value.pointer (some ⟨pw, 0, none⟩)), (slc p tt k 1)]) (pre := [cl pw 142 [(Value.iface 89 (Value.pointer (some ⟨bl, 0, none⟩))), (Value.int .i64 (po135_ : Int)), (Value.int .i64 (page : Int)), (Value.int .i64 0), (Value.slice (some ⟨bb, 0, none⟩) (wm + page) (wm + page)), (Value.int .i64 (wm : Int))], cl bb 5 (bytesV [] ++ junk136_), cl bl 91 [V156_], sl 9 1 V156_ (List.length ((ws ++ ws138_) ++ [(List.drop 0 ns).take (tt - 0)])) (strs ((ws ++ ws138_) ++ [(List.drop 0 ns).take (tt - 0)]))]) (F := F) rfl rfl cb56 (kWriteFit R pw bb bl page wm po135_ [] junk136_ V156_ ((ws ++ ws138_) ++ [(List.drop 0 ns).take (tt - 0)]) (slc p tt k 1) (k - tt) ((List.drop tt ns).take (k - tt)) (RS.slcB hP (by omega : tt ≤ k) (by omega : k ≤ k)) (by omega) (by omega) (by omega) (by omega) (by omega) (by simp; omega) (by simp; omega) (by simp; omega)) H169_ ?_)
        rintro v173_ p174_ w170_ ⟨junk168_, rfl, rfl, hj_junk168_⟩ S172_ H171_
        replace H171_ : Holds w170_ (ro R :: cl pw 142 [(Value.iface 89 (Value.pointer (some ⟨bl, 0, none⟩))), (Value.int .i64 (po135_ : Int)), (Value.int .i64 (page : Int)), (Value.int .i64 ((List.length ([] ++ ((List.drop tt ns).take (k - tt))) : Nat) : Int)), (Value.slice (some ⟨bb, 0, none⟩) (wm + page) (wm + page)), (Value.int .i64 (wm : Int))] :: cl bb 5 (bytesV ([] ++ ((List.drop tt ns).take (k - tt))) ++ junk168_) :: cl bl 91 [V156_] :: sl 9 1 V156_ (List.length ((ws ++ ws138_) ++ [(List.drop 0 ns).take (tt - 0)])) (strs ((ws ++ ws138_) ++ [(List.drop 0 ns).take (tt - 0)])) :: F) := H171_
        have S175_ := Same.trans S163_ S172_
        refine S_list (T_val (v := (Value.tuple #[(Value.int .i64 ((k - tt : Nat) : Int)), (Value.nilIface)])) (x_move rfl) ?_)
        refine S_list (T_val (v := (Value.int .i64 ((k - tt : Nat) : Int))) (by kernel_rfl) ?_)
        refine S_list (T_val (v := (Value.nilIface)) (by kernel_rfl) ?_)
        refine S_list (T_val (v := (Value.int .i64 ((k - tt : Nat) : Int))) (x_assign rfl) ?_)
        refine S_list (T_val (v := (Value.nilIface)) (x_assign rfl) ?_)
        refine wpList_nil ?_
        refine (X_then (hK167_ _ _ ?_))
        clear hK167_
        refine C_seq (fun K176_ hK176_ => ?_)
        refine C_reg ?_
        refine S_list (T_val (v := (Value.int .i64 (0 + ((tt - 0 : Nat) : Int)))) (x_move rfl) ?_)
        refine S_list (T_val (v := (Value.int .i64 ((k - tt : Nat) : Int))) (x_move rfl) ?_)
        refine S_list (T_val (v := (Value.int .i64 ((0 + ((tt - 0 : Nat) : Int)) + ((k - tt : Nat) : Int)))) (x_bin rfl rfl (ib_add (IntWalk.i64_in _ (by omega)))) ?_)
        refine S_list (T_val (v := (Value.int .i64 ((0 + ((tt - 0 : Nat) : Int)) + ((k - tt : Nat) : Int)))) (x_assign rfl) ?_)
        refine wpList_nil ?_
        refine (X_then (hK176_ _ _ ?_))
        clear hK176_
        refine C_seq (fun K177_ hK177_ => ?_)
        refine C_reg ?_
        refine S_list (T_val (v := (Value.int .i64 ((0 + ((tt - 0 : Nat) : Int)) + ((k - tt : Nat) : Int)))) (x_move rfl) ?_)
        refine S_list (T_val (v := (Value.nilIface)) (x_move rfl) ?_)
        refine S_list (T_val (v := (Value.int .i64 ((0 + ((tt - 0 : Nat) : Int)) + ((k - tt : Nat) : Int)))) (x_assign rfl) ?_)
        refine S_list (T_val (v := (Value.nilIface)) (x_assign rfl) ?_)
        refine wpList_nil ?_
        refine (X_then (hK177_ _ _ ?_))
        clear hK177_
        refine C_ret ?_
        refine R_any (v := (Value.tuple #[(Value.int .i64 ((0 + ((tt - 0 : Nat) : Int)) + ((k - tt : Nat) : Int))), (Value.nilIface)])) (run_results2 rfl rfl rfl) ?_
        have H178_ : Holds w170_ (ro R :: cl pw 142 [(Value.iface 89 (Value.pointer (some ⟨bl, 0, none⟩))), (Value.int .i64 (po135_ : Int)), (Value.int .i64 (page : Int)), (Value.int .i64 ((List.length ([] ++ ((List.drop tt ns).take (k - tt))) : Nat) : Int)), (Value.slice (some ⟨bb, 0, none⟩) (wm + page) (wm + page)), (Value.int .i64 (wm : Int))] :: cl bb 5 (bytesV ([] ++ ((List.drop tt ns).take (k - tt))) ++ junk168_) :: cl bl 91 [V156_] :: sl 9 1 V156_ (List.length (ws ++ (ws138_ ++ [(List.drop 0 ns).take (tt - 0)]))) (strs (ws ++ (ws138_ ++ [(List.drop 0 ns).take (tt - 0)]))) :: F) := cast2 (P := fun (c__ : List Value) (k__ : Nat) => Holds w170_ (ro R :: cl pw 142 [(Value.iface 89 (Value.pointer (some ⟨bl, 0, none⟩))), (Value.int .i64 (po135_ : Int)), (Value.int .i64 (page : Int)), (Value.int .i64 ((List.length ([] ++ ((List.drop tt ns).take (k - tt))) : Nat) : Int)), (Value.slice (some ⟨bb, 0, none⟩) (wm + page) (wm + page)), (Value.int .i64 (wm : Int))] :: cl bb 5 (bytesV ([] ++ ((List.drop tt ns).take (k - tt))) ++ junk168_) :: cl bl 91 [V156_] :: sl 9 1 V156_ k__ c__ :: F)) (by rw [List.append_assoc] : strs ((ws ++ ws138_) ++ [(List.drop 0 ns).take (tt - 0)]) = strs (ws ++ (ws138_ ++ [(List.drop 0 ns).take (tt - 0)]))) (by rw [List.append_assoc] : List.length ((ws ++ ws138_) ++ [(List.drop 0 ns).take (tt - 0)]) = List.length (ws ++ (ws138_ ++ [(List.drop 0 ns).take (tt - 0)]))) H171_
        have hs2 : ((List.drop 0 ns).take (tt - 0)).length = tt := by simp only [List.length_take, List.length_drop]; omega
        have hfl : ((List.drop tt ns).take (k - tt)).length = (k - tt) := RS.blen (RS.slcB hP (by omega : tt ≤ k) (by omega : k ≤ k))
        exact ⟨_, [cl pw 142 [(Value.iface 89 (Value.pointer (some ⟨bl, 0, none⟩))), (Value.int .i64 (po135_ : Int)), (Value.int .i64 (page : Int)), (Value.int .i64 ((List.length ([] ++ ((List.drop tt ns).take (k - tt))) : Nat) : Int)), (Value.slice (some ⟨bb, 0, none⟩) (wm + page) (wm + page)), (Value.int .i64 (wm : Int))], cl bb 5 (bytesV ([] ++ ((List.drop tt ns).take (k - tt))) ++ junk168_), cl bl 91 [V156_], sl 9 1 V156_ (List.length (ws ++ (ws138_ ++ [(List.drop 0 ns).take (tt - 0)]))) (strs (ws ++ (ws138_ ++ [(List.drop 0 ns).take (tt - 0)])))], rfl, ⟨_, po135_, [] ++ ((List.drop tt ns).take (k - tt)), junk168_, V156_, (ws138_ ++ [(List.drop 0 ns).take (tt - 0)]), rfl, rfl, WOk.over (by omega) (by omega) (by omega) (by rw [hr]; omega) hpo1 hf139_ (.inr ⟨_, rfl, fun h => by rw [h] at hs2; simp at hs2; omega, by rw [hs2]; exact hq4⟩) (by rw [List.nil_append]; omega) (by simp only [tot, List.map_cons, List.map_nil, List.sum_cons, List.sum_nil, List.nil_append, List.length_append, hfl, hs2]; omega), (fun h => absurd h (by omega)), by rw [hj_junk168_, List.nil_append, List.length_drop]; omega⟩, S175_, H178_⟩
      · have c151_fp : ¬ ((page : Int) < (k : Int)) := of_decide_eq_false c151_f
        refine C_skip (X_then (hK149_ _ _ ?_))
        clear hK149_
        refine C_seq (fun K179_ hK179_ => ?_)
        refine C_reg ?_
        refine S_list (T_val (v := (Value.pointer (some ⟨pw, 0, none⟩))) (x_move rfl) ?_)
        refine S_list (T_val (v := p) (x_move rfl) ?_)
        refine S_list (T_call (al := [(Value.pointer (some ⟨pw, 0, none⟩)), p]) (pre := [cl pw 142 [(Value.iface 89 (Value.pointer (some ⟨bl, 0, none⟩))), (Value.int .i64 (po135_ : Int)), (Value.int .i64 (page : Int)), (Value.int .i64 0), (Value.slice (some ⟨bb, 0, none⟩) (wm + page) (wm + page)), (Value.int .i64 (wm : Int))], cl bb 5 (bytesV [] ++ junk136_), cl bl 91 [V137_], sl 9 1 V137_ (List.length (ws ++ ws138_)) (strs (ws ++ ws138_))]) (F := F) rfl rfl cb56 (kWriteFit R pw bb bl page wm po135_ [] junk136_ V137_ (ws ++ ws138_) p k ns hP (by omega) (by omega) (by omega) (by omega) (by omega) (by simp; omega) (by simp; omega) (by simp; omega)) H142_ ?_)
        rintro v184_ p185_ w181_ ⟨junk180_, rfl, rfl, hj_junk180_⟩ S183_ H182_
        replace H182_ : Holds w181_ (ro R :: cl pw 142 [(Value.iface 89 (Value.pointer (some ⟨bl, 0, none⟩))), (Value.int .i64 (po135_ : Int)), (Value.int .i64 (page : Int)), (Value.int .i64 ((List.length ([] ++ ns) : Nat) : Int)), (Value.slice (some ⟨bb, 0, none⟩) (wm + page) (wm + page)), (Value.int .i64 (wm : Int))] :: cl bb 5 (bytesV ([] ++ ns) ++ junk180_) :: cl bl 91 [V137_] :: sl 9 1 V137_ (List.length (ws ++ ws138_)) (strs (ws ++ ws138_)) :: F) := H182_
        have S186_ := Same.trans S146_ S183_
        refine S_list (T_val (v := (Value.tuple #[(Value.int .i64 (k : Int)), (Value.nilIface)])) (x_move rfl) ?_)
        refine S_list (T_val (v := (Value.int .i64 (k : Int))) (by kernel_rfl) ?_)
        refine S_list (T_val (v := (Value.nilIface)) (by kernel_rfl) ?_)
        refine S_list (T_val (v := (Value.int .i64 (k : Int))) (x_assign rfl) ?_)
        refine S_list (T_val (v := (Value.nilIface)) (x_assign rfl) ?_)
        refine wpList_nil ?_
        refine (X_then (hK179_ _ _ ?_))
        clear hK179_
        refine C_seq (fun K187_ hK187_ => ?_)
        refine C_reg ?_
        refine S_list (T_val (v := (Value.int .i64 0)) (x_move rfl) ?_)
        refine S_list (T_val (v := (Value.int .i64 (k : Int))) (x_move rfl) ?_)
        refine S_list (T_val (v := (Value.int .i64 (0 + (k : Int)))) (x_bin rfl rfl (ib_add (IntWalk.i64_in _ (by omega)))) ?_)
        refine S_list (T_val (v := (Value.int .i64 (0 + (k : Int)))) (x_assign rfl) ?_)
        refine wpList_nil ?_
        refine (X_then (hK187_ _ _ ?_))
        clear hK187_
        refine C_seq (fun K188_ hK188_ => ?_)
        refine C_reg ?_
        refine S_list (T_val (v := (Value.int .i64 (0 + (k : Int)))) (x_move rfl) ?_)
        refine S_list (T_val (v := (Value.nilIface)) (x_move rfl) ?_)
        refine S_list (T_val (v := (Value.int .i64 (0 + (k : Int)))) (x_assign rfl) ?_)
        refine S_list (T_val (v := (Value.nilIface)) (x_assign rfl) ?_)
        refine wpList_nil ?_
        refine (X_then (hK188_ _ _ ?_))
        clear hK188_
        refine C_ret ?_
        refine R_any (v := (Value.tuple #[(Value.int .i64 (0 + (k : Int))), (Value.nilIface)])) (run_results2 rfl rfl rfl) ?_
        have H189_ : Holds w181_ (ro R :: cl pw 142 [(Value.iface 89 (Value.pointer (some ⟨bl, 0, none⟩))), (Value.int .i64 (po135_ : Int)), (Value.int .i64 (page : Int)), (Value.int .i64 ((List.length ([] ++ ns) : Nat) : Int)), (Value.slice (some ⟨bb, 0, none⟩) (wm + page) (wm + page)), (Value.int .i64 (wm : Int))] :: cl bb 5 (bytesV ([] ++ ns) ++ junk180_) :: cl bl 91 [V137_] :: sl 9 1 V137_ (List.length (ws ++ (ws138_ ++ []))) (strs (ws ++ (ws138_ ++ []))) :: F) := cast2 (P := fun (c__ : List Value) (k__ : Nat) => Holds w181_ (ro R :: cl pw 142 [(Value.iface 89 (Value.pointer (some ⟨bl, 0, none⟩))), (Value.int .i64 (po135_ : Int)), (Value.int .i64 (page : Int)), (Value.int .i64 ((List.length ([] ++ ns) : Nat) : Int)), (Value.slice (some ⟨bb, 0, none⟩) (wm + page) (wm + page)), (Value.int .i64 (wm : Int))] :: cl bb 5 (bytesV ([] ++ ns) ++ junk180_) :: cl bl 91 [V137_] :: sl 9 1 V137_ k__ c__ :: F)) (by simp : strs (ws ++ ws138_) = strs (ws ++ (ws138_ ++ []))) (by simp : List.length (ws ++ ws138_) = List.length (ws ++ (ws138_ ++ []))) H182_
        have hfl : (ns).length = k := RS.blen hP
        exact ⟨_, [cl pw 142 [(Value.iface 89 (Value.pointer (some ⟨bl, 0, none⟩))), (Value.int .i64 (po135_ : Int)), (Value.int .i64 (page : Int)), (Value.int .i64 ((List.length ([] ++ ns) : Nat) : Int)), (Value.slice (some ⟨bb, 0, none⟩) (wm + page) (wm + page)), (Value.int .i64 (wm : Int))], cl bb 5 (bytesV ([] ++ ns) ++ junk180_), cl bl 91 [V137_], sl 9 1 V137_ (List.length (ws ++ (ws138_ ++ []))) (strs (ws ++ (ws138_ ++ [])))], rfl, ⟨_, po135_, [] ++ ns, junk180_, V137_, (ws138_ ++ []), rfl, rfl, WOk.over (by omega) (by omega) (by omega) (by rw [hr]; omega) hpo1 hf139_ (.inl rfl) (by rw [List.nil_append]; omega) (by simp only [tot, List.map_cons, List.map_nil, List.sum_cons, List.sum_nil, List.nil_append, List.length_append, hfl]; omega), (fun h => absurd h (by omega)), by rw [hj_junk180_, List.nil_append, List.length_drop]; omega⟩, S186_, H189_⟩
end Go.Proofs.Ytfdnfnjmphjdnaa
