/- What a writer of pages does: the one below, a flush. -/
import Derived.Test.YtfdnfnjmphjdnaaPgD
import Derived.Test.YtfdnfnjmphjdnaaTy
set_option linter.unusedVariables false
set_option linter.unusedSimpArgs false
namespace Go.Proofs.Ytfdnfnjmphjdnaa
open Go Go.RowKit Gw

set_option maxHeartbeats 400000 in
theorem kBelow (R : HP) (bl : Nat) (p V : Value) (k : Nat) (ns : List Int) (ws : List (List Int)) (hP : RS R 1 p k (bytesV ns)) (hw : ws.length ≤ 1000) :
    Tri Try.prog 95 #[(Value.pointer (some ⟨bl, 0, none⟩)), p] R [cl bl 91 [V], sl 9 1 V ws.length (strs ws)] (fun v post => ∃ V' : Value, v = .tuple #[.int .i64 k, .nilIface] ∧ post = [cl bl 91 [V'], sl 9 1 V' (List.length (ws ++ [ns])) (strs (ws ++ [ns]))]) := by
  refine Tri.into (n := 19) (al := [(Value.pointer (some ⟨bl, 0, none⟩)), p]) Try.func95 rfl Try.ntmps95 rfl rfl fun w F H => ?_
  replace H : Holds w (ro R :: cl bl 91 [V] :: sl 9 1 V ws.length (strs ws) :: F) := H
  refine C_seq (fun K1_ hK1_ => ?_)
  refine C_reg ?_
  refine S_list (T_val (v := (Value.int .i64 0)) (x_assign rfl) ?_)
  refine S_list (T_val (v := (Value.nilIface)) (x_assign rfl) ?_)
  refine wpList_nil ?_
  refine (X_then (hK1_ _ _ ?_))
  clear hK1_
  refine C_seq (fun K2_ hK2_ => ?_)
  refine A_start (S := fun w => Sub R (hp w)) (N := 12) foll rfl rfl ?_
  have H4_ : Holds w.drew (ro R :: cl bl 91 [V] :: sl 9 1 V ws.length (strs ws) :: F) := H
  refine A_take 0 (ls' := #[true, false, false, false, false, false, false, false, false, false, false, false]) (v := (Value.pointer (some ⟨bl, 0, none⟩))) rfl (by kernel_rfl) (by kernel_rfl) (by kernel_rfl) (by kernel_rfl) (fun _ _ _ h => h) (fun w hS => x_move rfl) (Holds.ro_at H4_ 0 rfl) ?_
  refine A_take 1 (ls' := #[true, true, false, false, false, false, false, false, false, false, false, false]) (v := (Value.pointer (some ⟨bl, 0, none⟩))) rfl (by kernel_rfl) (by kernel_rfl) (by kernel_rfl) (by kernel_rfl) (fun _ _ _ h => h) (fun w hS => x_move rfl) (Holds.ro_at H4_ 0 rfl) ?_
  refine A_take 2 (ls' := #[true, true, true, false, false, false, false, false, false, false, false, false]) (v := (Value.pointer (some ⟨bl, 0, none⟩))) rfl (by kernel_rfl) (by kernel_rfl) (by kernel_rfl) (by kernel_rfl) (fun _ _ _ h => h) (fun w hS => by kernel_rfl) (Holds.ro_at H4_ 0 rfl) ?_
  refine A_take 3 (ls' := #[true, true, true, true, false, false, false, false, false, false, false, false]) (v := (Value.pointer (some ⟨bl, 0, none⟩))) rfl (by kernel_rfl) (by kernel_rfl) (by kernel_rfl) (by kernel_rfl) (fun _ _ _ h => h) (fun w hS => by kernel_rfl) (Holds.ro_at H4_ 0 rfl) ?_
  refine A_take 5 (ls' := #[true, true, true, true, false, true, false, false, false, false, false, false]) (v := p) rfl (by kernel_rfl) (by kernel_rfl) (by kernel_rfl) (by kernel_rfl) (fun _ _ _ h => h) (fun w hS => x_move rfl) (Holds.ro_at H4_ 0 rfl) ?_
  refine A_take 6 (ls' := #[true, true, true, true, false, true, true, false, false, false, false, false]) (v := (Value.string (strN ns))) rfl (by kernel_rfl) (by kernel_rfl) (by kernel_rfl) (by kernel_rfl) (fun _ _ _ h => h) (fun w hS => x_b2sRS rfl hP hS Try.underlying25 Try.underlying5 Try.underlying9) (Holds.ro_at H4_ 0 rfl) ?_
  refine A_ready (i := 4) (rs := [7]) (by kernel_rfl) ?_
  refine AllR.cons ?_ ?_
  · skip
    refine A_op (ls' := #[true, true, true, true, true, true, true, false, false, false, false, false]) rfl (by kernel_rfl) (T_val (v := V) (x_load1 rfl Try.underlying55 rfl ((Holds.rd H4_ 1 rfl) 0 V rfl)) ?_)
    refine ⟨(Holds.ro_at H4_ 0 rfl), ?_⟩
    refine A_ready (i := 7) (rs := []) (by kernel_rfl) ?_
    refine AllR.cons ?_ AllR.nil
    refine A_op (ls' := #[true, true, true, true, true, true, true, true, false, false, false, false]) rfl (by kernel_rfl) (T_new (obj := .cells #[(Value.string (strN ns))] 9) (f := fun b => .slice (some ⟨b, 0, none⟩) 1 1) (A := fun b => cl b 9 [(Value.string (strN ns))]) (by kernel_rfl) (fun l h => h.alloc _ _) H4_ ?_)
    intro b5_ w6_ S8_ H7_
    replace H7_ : Holds w6_ (cl b5_ 9 [(Value.string (strN ns))] :: ro R :: cl bl 91 [V] :: sl 9 1 V ws.length (strs ws) :: F) := H7_
    have S9_ := Same.trans (Same.trans (Same.refl w) (Same.drew _)) S8_
    refine ⟨(Holds.ro_at H7_ 1 rfl), ?_⟩
    refine A_ready (i := 8) (rs := []) (by kernel_rfl) ?_
    refine AllR.cons ?_ AllR.nil
    refine A_op (ls' := #[true, true, true, true, true, true, true, true, true, false, false, false]) rfl (by kernel_rfl) (T_append rfl rfl Try.underlying55 z9 rfl (by decide) H7_ 3 rfl (Holds.cl_src H7_ 0 rfl Try.underlying55 (by simp [Value.oneCell']) rfl) (by omega) ?_)
    intro v10_ w11_ S13_ H12_
    replace H12_ : Holds w11_ (cl b5_ 9 [(Value.string (strN ns))] :: ro R :: cl bl 91 [V] :: sl 9 1 v10_ (ws.length + 1) ((strs ws) ++ [(Value.string (strN ns))]) :: F) := H12_
    have S14_ := Same.trans S9_ S13_
    refine ⟨(Holds.ro_at H12_ 1 rfl), ?_⟩
    refine A_take 9 (ls' := #[true, true, true, true, true, true, true, true, true, true, false, false]) (v := (Value.pointer (some ⟨bl, 0, none⟩))) rfl (by kernel_rfl) (by kernel_rfl) (by kernel_rfl) (by kernel_rfl) (fun _ _ _ h => h) (fun w hS => by kernel_rfl) (Holds.ro_at H12_ 1 rfl) ?_
    refine A_take 10 (ls' := #[true, true, true, true, true, true, true, true, true, true, true, false]) (v := (Value.pointer (some ⟨bl, 0, none⟩))) rfl (by kernel_rfl) (by kernel_rfl) (by kernel_rfl) (by kernel_rfl) (fun _ _ _ h => h) (fun w hS => by kernel_rfl) (Holds.ro_at H12_ 1 rfl) ?_
    refine A_ready (i := 11) (rs := []) (by kernel_rfl) ?_
    refine AllR.cons ?_ AllR.nil
    refine A_op0 (ls' := #[true, true, true, true, true, true, true, true, true, true, true, true]) rfl (by kernel_rfl) (T_store1 (v := v10_) rfl rfl z55 (Holds.sl_one H12_ 3 rfl) H12_ 2 rfl (Nat.le_of_ble_eq_true (by rfl)) ?_)
    intro w15_ S17_ H16_
    replace H16_ : Holds w15_ (cl b5_ 9 [(Value.string (strN ns))] :: ro R :: cl bl 91 [v10_] :: sl 9 1 v10_ (ws.length + 1) ((strs ws) ++ [(Value.string (strN ns))]) :: F) := H16_
    have S18_ := Same.trans S14_ S17_
    refine ⟨(Holds.ro_at H16_ 1 rfl), ?_⟩
    refine A_done (by kernel_rfl) ?_
    refine (X_then (hK2_ _ _ ?_))
    clear hK2_
    refine C_seq (fun K19_ hK19_ => ?_)
    refine C_reg ?_
    refine S_list (T_val (v := p) (x_move rfl) ?_)
    refine S_list (T_val (v := (Value.int .i64 (k : Int))) (x_lenRS rfl hP Try.underlying25) ?_)
    refine S_list (T_val (v := (Value.int .i64 (k : Int))) (x_assign rfl) ?_)
    refine S_list (T_val (v := (Value.nilIface)) (x_assign rfl) ?_)
    refine wpList_nil ?_
    refine (X_then (hK19_ _ _ ?_))
    clear hK19_
    refine C_ret ?_
    refine R_any (v := (Value.tuple #[(Value.int .i64 (k : Int)), (Value.nilIface)])) (run_results2 rfl rfl rfl) ?_
    have H20_ : Holds w15_ (cl b5_ 9 [(Value.string (strN ns))] :: ro R :: cl bl 91 [v10_] :: sl 9 1 v10_ (List.length (ws ++ [ns])) (strs (ws ++ [ns])) :: F) := cast2 (P := fun (c__ : List Value) (k__ : Nat) => Holds w15_ (cl b5_ 9 [(Value.string (strN ns))] :: ro R :: cl bl 91 [v10_] :: sl 9 1 v10_ k__ c__ :: F)) (strs_snoc ws ns : (strs ws) ++ [(Value.string (strN ns))] = strs (ws ++ [ns])) (by simp : ws.length + 1 = List.length (ws ++ [ns])) H16_
    have H21_ : Holds w15_ (ro R :: cl bl 91 [v10_] :: sl 9 1 v10_ (List.length (ws ++ [ns])) (strs (ws ++ [ns])) :: F) := (Holds.erase (Holds.bring (Holds.bring (Holds.bring H20_ 3 rfl) 3 rfl) 3 rfl) 3)
    exact ⟨_, [cl bl 91 [v10_], sl 9 1 v10_ (List.length (ws ++ [ns])) (strs (ws ++ [ns]))], rfl, ⟨v10_, rfl, rfl⟩, S18_, H21_⟩
  refine AllR.cons ?_ AllR.nil
  refine A_op (ls' := #[true, true, true, true, false, true, true, true, false, false, false, false]) rfl (by kernel_rfl) (T_new (obj := .cells #[(Value.string (strN ns))] 9) (f := fun b => .slice (some ⟨b, 0, none⟩) 1 1) (A := fun b => cl b 9 [(Value.string (strN ns))]) (by kernel_rfl) (fun l h => h.alloc _ _) H4_ ?_)
  intro b22_ w23_ S25_ H24_
  replace H24_ : Holds w23_ (cl b22_ 9 [(Value.string (strN ns))] :: ro R :: cl bl 91 [V] :: sl 9 1 V ws.length (strs ws) :: F) := H24_
  have S26_ := Same.trans (Same.trans (Same.refl w) (Same.drew _)) S25_
  refine ⟨(Holds.ro_at H24_ 1 rfl), ?_⟩
  refine A_ready (i := 4) (rs := []) (by kernel_rfl) ?_
  refine AllR.cons ?_ AllR.nil
  refine A_op (ls' := #[true, true, true, true, true, true, true, true, false, false, false, false]) rfl (by kernel_rfl) (T_val (v := V) (x_load1 rfl Try.underlying55 rfl ((Holds.rd H24_ 2 rfl) 0 V rfl)) ?_)
  refine ⟨(Holds.ro_at H24_ 1 rfl), ?_⟩
  refine A_ready (i := 8) (rs := []) (by kernel_rfl) ?_
  refine AllR.cons ?_ AllR.nil
  refine A_op (ls' := #[true, true, true, true, true, true, true, true, true, false, false, false]) rfl (by kernel_rfl) (T_append rfl rfl Try.underlying55 z9 rfl (by decide) H24_ 3 rfl (Holds.cl_src H24_ 0 rfl Try.underlying55 (by simp [Value.oneCell']) rfl) (by omega) ?_)
  intro v27_ w28_ S30_ H29_
  replace H29_ : Holds w28_ (cl b22_ 9 [(Value.string (strN ns))] :: ro R :: cl bl 91 [V] :: sl 9 1 v27_ (ws.length + 1) ((strs ws) ++ [(Value.string (strN ns))]) :: F) := H29_
  have S31_ := Same.trans S26_ S30_
  refine ⟨(Holds.ro_at H29_ 1 rfl), ?_⟩
  refine A_take 9 (ls' := #[true, true, true, true, true, true, true, true, true, true, false, false]) (v := (Value.pointer (some ⟨bl, 0, none⟩))) rfl (by kernel_rfl) (by kernel_rfl) (by kernel_rfl) (by kernel_rfl) (fun _ _ _ h => h) (fun w hS => by kernel_rfl) (Holds.ro_at H29_ 1 rfl) ?_
  refine A_take 10 (ls' := #[true, true, true, true, true, true, true, true, true, true, true, false]) (v := (Value.pointer (some ⟨bl, 0, none⟩))) rfl (by kernel_rfl) (by kernel_rfl) (by kernel_rfl) (by kernel_rfl) (fun _ _ _ h => h) (fun w hS => by kernel_rfl) (Holds.ro_at H29_ 1 rfl) ?_
  refine A_ready (i := 11) (rs := []) (by kernel_rfl) ?_
  refine AllR.cons ?_ AllR.nil
  refine A_op0 (ls' := #[true, true, true, true, true, true, true, true, true, true, true, true]) rfl (by kernel_rfl) (T_store1 (v := v27_) rfl rfl z55 (Holds.sl_one H29_ 3 rfl) H29_ 2 rfl (Nat.le_of_ble_eq_true (by rfl)) ?_)
  intro w32_ S34_ H33_
  replace H33_ : Holds w32_ (cl b22_ 9 [(Value.string (strN ns))] :: ro R :: cl bl 91 [v27_] :: sl 9 1 v27_ (ws.length + 1) ((strs ws) ++ [(Value.string (strN ns))]) :: F) := H33_
  have S35_ := Same.trans S31_ S34_
  refine ⟨(Holds.ro_at H33_ 1 rfl), ?_⟩
  refine A_done (by kernel_rfl) ?_
  refine (X_then (hK2_ _ _ ?_))
  clear hK2_
  refine C_seq (fun K36_ hK36_ => ?_)
  refine C_reg ?_
  refine S_list (T_val (v := p) (x_move rfl) ?_)
  refine S_list (T_val (v := (Value.int .i64 (k : Int))) (x_lenRS rfl hP Try.underlying25) ?_)
  refine S_list (T_val (v := (Value.int .i64 (k : Int))) (x_assign rfl) ?_)
  refine S_list (T_val (v := (Value.nilIface)) (x_assign rfl) ?_)
  refine wpList_nil ?_
  refine (X_then (hK36_ _ _ ?_))
  clear hK36_
  refine C_ret ?_
  refine R_any (v := (Value.tuple #[(Value.int .i64 (k : Int)), (Value.nilIface)])) (run_results2 rfl rfl rfl) ?_
  have H37_ : Holds w32_ (cl b22_ 9 [(Value.string (strN ns))] :: ro R :: cl bl 91 [v27_] :: sl 9 1 v27_ (List.length (ws ++ [ns])) (strs (ws ++ [ns])) :: F) := cast2 (P := fun (c__ : List Value) (k__ : Nat) => Holds w32_ (cl b22_ 9 [(Value.string (strN ns))] :: ro R :: cl bl 91 [v27_] :: sl 9 1 v27_ k__ c__ :: F)) (strs_snoc ws ns : (strs ws) ++ [(Value.string (strN ns))] = strs (ws ++ [ns])) (by simp : ws.length + 1 = List.length (ws ++ [ns])) H33_
  have H38_ : Holds w32_ (ro R :: cl bl 91 [v27_] :: sl 9 1 v27_ (List.length (ws ++ [ns])) (strs (ws ++ [ns])) :: F) := (Holds.erase (Holds.bring (Holds.bring (Holds.bring H37_ 3 rfl) 3 rfl) 3 rfl) 3)
  exact ⟨_, [cl bl 91 [v27_], sl 9 1 v27_ (List.length (ws ++ [ns])) (strs (ws ++ [ns]))], rfl, ⟨v27_, rfl, rfl⟩, S35_, H38_⟩

set_option maxHeartbeats 400000 in
theorem kFlush (R : HP) (pw bb bl page wm po : Nat) (pd : List Int) (junk : List Value) (V : Value) (ws : List (List Int)) (h1 : 0 < page) (h2 : page ≤ 65536) (h3 : page ≤ wm) (h4 : wm ≤ 1048576) (h5 : po ≤ 2199023255552) (h6 : pd.length + junk.length = wm + page) (h7 : ws.length ≤ 900) (hbuf : pd.length ≤ wm + page) :
    Tri Try.prog 70 #[(Value.pointer (some ⟨pw, 0, none⟩))] R [cl pw 142 [(Value.iface 89 (Value.pointer (some ⟨bl, 0, none⟩))), (Value.int .i64 (po : Int)), (Value.int .i64 (page : Int)), (Value.int .i64 (pd.length : Int)), (Value.slice (some ⟨bb, 0, none⟩) (wm + page) (wm + page)), (Value.int .i64 (wm : Int))], cl bb 5 (bytesV pd ++ junk), cl bl 91 [V], sl 9 1 V ws.length (strs ws)] (fun v post => ∃ (nn : Int) (po' : Nat) (junk' : List Value) (V' : Value) (ws' : List (List Int)), v = .tuple #[.int .i64 nn, .nilIface] ∧ post = [cl pw 142 [(Value.iface 89 (Value.pointer (some ⟨bl, 0, none⟩))), (Value.int .i64 (po' : Int)), (Value.int .i64 (page : Int)), (Value.int .i64 0), (Value.slice (some ⟨bb, 0, none⟩) (wm + page) (wm + page)), (Value.int .i64 (wm : Int))], cl bb 5 (bytesV [] ++ junk'), cl bl 91 [V'], sl 9 1 V' (List.length (ws ++ ws')) (strs (ws ++ ws'))] ∧ FOk page po pd po' ws' ∧ junk'.length = wm + page) := by
  refine Tri.into (n := 52) (al := [(Value.pointer (some ⟨pw, 0, none⟩))]) Try.func70 rfl Try.ntmps70 rfl rfl fun w F H => ?_
  replace H : Holds w (ro R :: cl pw 142 [(Value.iface 89 (Value.pointer (some ⟨bl, 0, none⟩))), (Value.int .i64 (po : Int)), (Value.int .i64 (page : Int)), (Value.int .i64 (pd.length : Int)), (Value.slice (some ⟨bb, 0, none⟩) (wm + page) (wm + page)), (Value.int .i64 (wm : Int))] :: cl bb 5 (bytesV pd ++ junk) :: cl bl 91 [V] :: sl 9 1 V ws.length (strs ws) :: F) := H
  refine C_seq (fun K1_ hK1_ => ?_)
  refine C_reg ?_
  refine S_list (T_val (v := (Value.int .i64 0)) (x_assign rfl) ?_)
  refine S_list (T_val (v := (Value.nilIface)) (x_assign rfl) ?_)
  refine wpList_nil ?_
  refine (X_then (hK1_ _ _ ?_))
  clear hK1_
  refine C_seq (fun K2_ hK2_ => ?_)
  refine C_seq (fun K3_ hK3_ => ?_)
  refine C_reg ?_
  refine S_list (T_val (v := (Value.pointer (some ⟨pw, 0, none⟩))) (x_move rfl) ?_)
  refine S_list (T_val (v := (Value.pointer (some ⟨pw, 0, none⟩))) (by kernel_rfl) ?_)
  refine S_list (T_val (v := (Value.pointer (some ⟨pw, 3, none⟩))) (by kernel_rfl) ?_)
  refine S_list (T_val (v := (Value.int .i64 (pd.length : Int))) (x_load1 rfl Try.underlying3 rfl ((Holds.rd H 1 rfl) 3 (Value.int .i64 (pd.length : Int)) rfl)) ?_)
  refine S_list (T_val (v := (Value.bool (decide ((pd.length : Int) = 0)))) (x_bin rfl rfl rfl) ?_)
  refine wpList_nil ?_
  refine (X_then (hK3_ _ _ ?_))
  clear hK3_
  refine C_cond (b := decide ((pd.length : Int) = 0)) rfl (fun c4_t => ?_) (fun c4_f => ?_)
  · have c4_tp : (pd.length : Int) = 0 := of_decide_eq_true c4_t
    refine C_seq (fun K5_ hK5_ => ?_)
    refine C_reg ?_
    refine S_list (T_val (v := (Value.int .i64 0)) (x_assign rfl) ?_)
    refine S_list (T_val (v := (Value.nilIface)) (x_assign rfl) ?_)
    refine wpList_nil ?_
    refine (X_then (hK5_ _ _ ?_))
    clear hK5_
    refine C_ret (X_thenR ?_)
    refine R_any (v := (Value.tuple #[(Value.int .i64 0), (Value.nilIface)])) (run_results2 rfl rfl rfl) ?_
    have H6_ : Holds w (ro R :: cl pw 142 [(Value.iface 89 (Value.pointer (some ⟨bl, 0, none⟩))), (Value.int .i64 (po : Int)), (Value.int .i64 (page : Int)), (Value.int .i64 (pd.length : Int)), (Value.slice (some ⟨bb, 0, none⟩) (wm + page) (wm + page)), (Value.int .i64 (wm : Int))] :: cl bb 5 (bytesV [] ++ (bytesV pd ++ junk)) :: cl bl 91 [V] :: sl 9 1 V ws.length (strs ws) :: F) := cast1 (P := fun (c__ : List Value) => Holds w (ro R :: cl pw 142 [(Value.iface 89 (Value.pointer (some ⟨bl, 0, none⟩))), (Value.int .i64 (po : Int)), (Value.int .i64 (page : Int)), (Value.int .i64 (pd.length : Int)), (Value.slice (some ⟨bb, 0, none⟩) (wm + page) (wm + page)), (Value.int .i64 (wm : Int))] :: cl bb 5 c__ :: cl bl 91 [V] :: sl 9 1 V ws.length (strs ws) :: F)) (rfl : bytesV pd ++ junk = bytesV [] ++ (bytesV pd ++ junk)) H
    have H7_ : Holds w (ro R :: cl pw 142 [(Value.iface 89 (Value.pointer (some ⟨bl, 0, none⟩))), (Value.int .i64 (po : Int)), (Value.int .i64 (page : Int)), (Value.int .i64 0), (Value.slice (some ⟨bb, 0, none⟩) (wm + page) (wm + page)), (Value.int .i64 (wm : Int))] :: cl bb 5 (bytesV [] ++ (bytesV pd ++ junk)) :: cl bl 91 [V] :: sl 9 1 V ws.length (strs ws) :: F) := cast1 (P := fun (c__ : List Value) => Holds w (ro R :: cl pw 142 c__ :: cl bb 5 (bytesV [] ++ (bytesV pd ++ junk)) :: cl bl 91 [V] :: sl 9 1 V ws.length (strs ws) :: F)) (by rw [show (pd.length : Int) = 0 by omega] : [(Value.iface 89 (Value.pointer (some ⟨bl, 0, none⟩))), (Value.int .i64 (po : Int)), (Value.int .i64 (page : Int)), (Value.int .i64 (pd.length : Int)), (Value.slice (some ⟨bb, 0, none⟩) (wm + page) (wm + page)), (Value.int .i64 (wm : Int))] = [(Value.iface 89 (Value.pointer (some ⟨bl, 0, none⟩))), (Value.int .i64 (po : Int)), (Value.int .i64 (page : Int)), (Value.int .i64 0), (Value.slice (some ⟨bb, 0, none⟩) (wm + page) (wm + page)), (Value.int .i64 (wm : Int))]) H6_
    have H8_ : Holds w (ro R :: cl pw 142 [(Value.iface 89 (Value.pointer (some ⟨bl, 0, none⟩))), (Value.int .i64 (po : Int)), (Value.int .i64 (page : Int)), (Value.int .i64 0), (Value.slice (some ⟨bb, 0, none⟩) (wm + page) (wm + page)), (Value.int .i64 (wm : Int))] :: cl bb 5 (bytesV [] ++ (bytesV pd ++ junk)) :: cl bl 91 [V] :: sl 9 1 V (List.length (ws ++ [])) (strs (ws ++ [])) :: F) := cast2 (P := fun (c__ : List Value) (k__ : Nat) => Holds w (ro R :: cl pw 142 [(Value.iface 89 (Value.pointer (some ⟨bl, 0, none⟩))), (Value.int .i64 (po : Int)), (Value.int .i64 (page : Int)), (Value.int .i64 0), (Value.slice (some ⟨bb, 0, none⟩) (wm + page) (wm + page)), (Value.int .i64 (wm : Int))] :: cl bb 5 (bytesV [] ++ (bytesV pd ++ junk)) :: cl bl 91 [V] :: sl 9 1 V k__ c__ :: F)) (by simp : strs ws = strs (ws ++ [])) (by simp : ws.length = List.length (ws ++ [])) H7_
    exact ⟨_, [cl pw 142 [(Value.iface 89 (Value.pointer (some ⟨bl, 0, none⟩))), (Value.int .i64 (po : Int)), (Value.int .i64 (page : Int)), (Value.int .i64 0), (Value.slice (some ⟨bb, 0, none⟩) (wm + page) (wm + page)), (Value.int .i64 (wm : Int))], cl bb 5 (bytesV [] ++ (bytesV pd ++ junk)), cl bl 91 [V], sl 9 1 V (List.length (ws ++ [])) (strs (ws ++ []))], rfl, ⟨_, po, _, V, [], rfl, rfl, ⟨fun _ => ⟨rfl, rfl⟩, fun h => absurd (List.eq_nil_of_length_eq_zero (by omega)) h⟩, by rw [List.length_append, bytesV_len]; omega⟩, (Same.refl w), H8_⟩
  · have c4_fp : ¬ ((pd.length : Int) = 0) := of_decide_eq_false c4_f
    refine C_skip (X_then (hK2_ _ _ ?_))
    clear hK2_
    refine C_seq (fun K9_ hK9_ => ?_)
    refine A_start (S := fun w => Rd pw [(Value.iface 89 (Value.pointer (some ⟨bl, 0, none⟩))), (Value.int .i64 (po : Int)), (Value.int .i64 (page : Int)), (Value.int .i64 (pd.length : Int)), (Value.slice (some ⟨bb, 0, none⟩) (wm + page) (wm + page)), (Value.int .i64 (wm : Int))] w ∧ Sub R (hp w)) (N := 21) foll rfl rfl ?_
    have H11_ : Holds w.drew (ro R :: cl pw 142 [(Value.iface 89 (Value.pointer (some ⟨bl, 0, none⟩))), (Value.int .i64 (po : Int)), (Value.int .i64 (page : Int)), (Value.int .i64 (pd.length : Int)), (Value.slice (some ⟨bb, 0, none⟩) (wm + page) (wm + page)), (Value.int .i64 (wm : Int))] :: cl bb 5 (bytesV pd ++ junk) :: cl bl 91 [V] :: sl 9 1 V ws.length (strs ws) :: F) := H
    refine A_take 0 (ls' := #[true, false, false, false, false, false, false, false, false, false, false, false, false, false, false, false, false, false, false, false, false]) (v := (Value.pointer (some ⟨pw, 0, none⟩))) rfl (by kernel_rfl) (by kernel_rfl) (by kernel_rfl) (by kernel_rfl) (fun _ _ _ h => h) (fun w hS => x_move rfl) ⟨Holds.rd H11_ 1 rfl, Holds.ro_at H11_ 0 rfl⟩ ?_
    refine A_take 1 (ls' := #[true, true, false, false, false, false, false, false, false, false, false, false, false, false, false, false, false, false, false, false, false]) (v := (Value.pointer (some ⟨pw, 0, none⟩))) rfl (by kernel_rfl) (by kernel_rfl) (by kernel_rfl) (by kernel_rfl) (fun _ _ _ h => h) (fun w hS => by kernel_rfl) ⟨Holds.rd H11_ 1 rfl, Holds.ro_at H11_ 0 rfl⟩ ?_
    refine A_take 2 (ls' := #[true, true, true, false, false, false, false, false, false, false, false, false, false, false, false, false, false, false, false, false, false]) (v := (Value.pointer (some ⟨pw, 0, none⟩))) rfl (by kernel_rfl) (by kernel_rfl) (by kernel_rfl) (by kernel_rfl) (fun _ _ _ h => h) (fun w hS => by kernel_rfl) ⟨Holds.rd H11_ 1 rfl, Holds.ro_at H11_ 0 rfl⟩ ?_
    refine A_take 3 (ls' := #[true, true, true, true, false, false, false, false, false, false, false, false, false, false, false, false, false, false, false, false, false]) (v := (Value.iface 89 (Value.pointer (some ⟨bl, 0, none⟩)))) rfl (by kernel_rfl) (by kernel_rfl) (by kernel_rfl) (by kernel_rfl) (fun _ _ _ h => h) (fun w hS => x_load1 rfl Try.underlying139 rfl (hS.1 0 (Value.iface 89 (Value.pointer (some ⟨bl, 0, none⟩))) rfl)) ⟨Holds.rd H11_ 1 rfl, Holds.ro_at H11_ 0 rfl⟩ ?_
    refine A_take 4 (ls' := #[true, true, true, true, true, false, false, false, false, false, false, false, false, false, false, false, false, false, false, false, false]) (v := (Value.pointer (some ⟨pw, 0, none⟩))) rfl (by kernel_rfl) (by kernel_rfl) (by kernel_rfl) (by kernel_rfl) (fun _ _ _ h => h) (fun w hS => x_move rfl) ⟨Holds.rd H11_ 1 rfl, Holds.ro_at H11_ 0 rfl⟩ ?_
    refine A_take 5 (ls' := #[true, true, true, true, true, true, false, false, false, false, false, false, false, false, false, false, false, false, false, false, false]) (v := (Value.pointer (some ⟨pw, 0, none⟩))) rfl (by kernel_rfl) (by kernel_rfl) (by kernel_rfl) (by kernel_rfl) (fun _ _ _ h => h) (fun w hS => by kernel_rfl) ⟨Holds.rd H11_ 1 rfl, Holds.ro_at H11_ 0 rfl⟩ ?_
    refine A_take 6 (ls' := #[true, true, true, true, true, true, true, false, false, false, false, false, false, false, false, false, false, false, false, false, false]) (v := (Value.pointer (some ⟨pw, 4, none⟩))) rfl (by kernel_rfl) (by kernel_rfl) (by kernel_rfl) (by kernel_rfl) (fun _ _ _ h => h) (fun w hS => by kernel_rfl) ⟨Holds.rd H11_ 1 rfl, Holds.ro_at H11_ 0 rfl⟩ ?_
    refine A_take 7 (ls' := #[true, true, true, true, true, true, true, true, false, false, false, false, false, false, false, false, false, false, false, false, false]) (v := (Value.slice (some ⟨bb, 0, none⟩) (wm + page) (wm + page))) rfl (by kernel_rfl) (by kernel_rfl) (by kernel_rfl) (by kernel_rfl) (fun _ _ _ h => h) (fun w hS => x_load1 rfl Try.underlying25 rfl (hS.1 4 (Value.slice (some ⟨bb, 0, none⟩) (wm + page) (wm + page)) rfl)) ⟨Holds.rd H11_ 1 rfl, Holds.ro_at H11_ 0 rfl⟩ ?_
    refine A_take 8 (ls' := #[true, true, true, true, true, true, true, true, true, false, false, false, false, false, false, false, false, false, false, false, false]) (v := (Value.pointer (some ⟨pw, 0, none⟩))) rfl (by kernel_rfl) (by kernel_rfl) (by kernel_rfl) (by kernel_rfl) (fun _ _ _ h => h) (fun w hS => x_move rfl) ⟨Holds.rd H11_ 1 rfl, Holds.ro_at H11_ 0 rfl⟩ ?_
    refine A_take 9 (ls' := #[true, true, true, true, true, true, true, true, true, true, false, false, false, false, false, false, false, false, false, false, false]) (v := (Value.pointer (some ⟨pw, 0, none⟩))) rfl (by kernel_rfl) (by kernel_rfl) (by kernel_rfl) (by kernel_rfl) (fun _ _ _ h => h) (fun w hS => by kernel_rfl) ⟨Holds.rd H11_ 1 rfl, Holds.ro_at H11_ 0 rfl⟩ ?_
    refine A_take 10 (ls' := #[true, true, true, true, true, true, true, true, true, true, true, false, false, false, false, false, false, false, false, false, false]) (v := (Value.pointer (some ⟨pw, 3, none⟩))) rfl (by kernel_rfl) (by kernel_rfl) (by kernel_rfl) (by kernel_rfl) (fun _ _ _ h => h) (fun w hS => by kernel_rfl) ⟨Holds.rd H11_ 1 rfl, Holds.ro_at H11_ 0 rfl⟩ ?_
    refine A_take 11 (ls' := #[true, true, true, true, true, true, true, true, true, true, true, true, false, false, false, false, false, false, false, false, false]) (v := (Value.int .i64 (pd.length : Int))) rfl (by kernel_rfl) (by kernel_rfl) (by kernel_rfl) (by kernel_rfl) (fun _ _ _ h => h) (fun w hS => x_load1 rfl Try.underlying3 rfl (hS.1 3 (Value.int .i64 (pd.length : Int)) rfl)) ⟨Holds.rd H11_ 1 rfl, Holds.ro_at H11_ 0 rfl⟩ ?_
    refine A_take 12 (ls' := #[true, true, true, true, true, true, true, true, true, true, true, true, true, false, false, false, false, false, false, false, false]) (v := (Value.slice (some ⟨bb, 0, none⟩) pd.length (wm + page))) rfl (by kernel_rfl) (by kernel_rfl) (by kernel_rfl) (by kernel_rfl) (fun _ _ _ h => h) (fun w hS => x_slice (l := 0) (h := pd.length) rfl Try.underlying25 z5 ⟨_, _, rfl, by omega, by omega, by omega⟩ rfl (by simp [Addr.add])) ⟨Holds.rd H11_ 1 rfl, Holds.ro_at H11_ 0 rfl⟩ ?_
    refine A_take 13 (ls' := #[true, true, true, true, true, true, true, true, true, true, true, true, true, true, false, false, false, false, false, false, false]) (v := (Value.iface 89 (Value.pointer (some ⟨bl, 0, none⟩)))) rfl (by kernel_rfl) (by kernel_rfl) (by kernel_rfl) (by kernel_rfl) (fun _ _ _ h => h) (fun w hS => by kernel_rfl) ⟨Holds.rd H11_ 1 rfl, Holds.ro_at H11_ 0 rfl⟩ ?_
    refine A_take 14 (ls' := #[true, true, true, true, true, true, true, true, true, true, true, true, true, true, true, false, false, false, false, false, false]) (v := (Value.iface 89 (Value.pointer (some ⟨bl, 0, none⟩)))) rfl (by kernel_rfl) (by kernel_rfl) (by kernel_rfl) (by kernel_rfl) (fun _ _ _ h => h) (fun w hS => x_move rfl) ⟨Holds.rd H11_ 1 rfl, Holds.ro_at H11_ 0 rfl⟩ ?_
    refine A_ready (i := 15) (rs := []) (by kernel_rfl) ?_
    refine AllR.cons ?_ AllR.nil
    have H13_ : Holds w.drew (ro R :: cl bb 5 (bytesV pd ++ junk) :: cl bl 91 [V] :: sl 9 1 V ws.length (strs ws) :: cl pw 142 [(Value.iface 89 (Value.pointer (some ⟨bl, 0, none⟩))), (Value.int .i64 (po : Int)), (Value.int .i64 (page : Int)), (Value.int .i64 (pd.length : Int)), (Value.slice (some ⟨bb, 0, none⟩) (wm + page) (wm + page)), (Value.int .i64 (wm : Int))] :: F) := (Holds.bring (Holds.bring (Holds.bring (Holds.bring H11_ 4 rfl) 4 rfl) 4 rfl) 3 rfl)
    refine A_op (ls' := #[true, true, true, true, true, true, true, true, true, true, true, true, true, true, true, true, false, false, false, false, false]) rfl (by kernel_rfl) (T_invoke (al := [(Value.pointer (some ⟨bl, 0, none⟩)), (Value.slice (some ⟨bb, 0, none⟩) pd.length (wm + page))]) (pre := [cl bb 5 (bytesV pd ++ junk), cl bl 91 [V], sl 9 1 V ws.length (strs ws)]) (F := cl pw 142 [(Value.iface 89 (Value.pointer (some ⟨bl, 0, none⟩))), (Value.int .i64 (po : Int)), (Value.int .i64 (page : Int)), (Value.int .i64 (pd.length : Int)), (Value.slice (some ⟨bb, 0, none⟩) (wm + page) (wm + page)), (Value.int .i64 (wm : Int))] :: F) rfl (fun w => by kernel_rfl) rfl cb95 (Tri.lend (fun h0 a0 d0 => kBelow (un R h0) bl (Value.slice (some ⟨bb, 0, none⟩) pd.length (wm + page)) V pd.length pd ws (cl_RSpre a0 (Sub.un_right d0) (bytesV_len _) (by omega)) (by first | omega | (simp; omega)))) H13_ ?_)
    rintro v17_ p18_ w14_ ⟨_, rfl, V12_, rfl, rfl⟩ S16_ H15_
    replace H15_ : Holds w14_ (ro R :: cl bb 5 (bytesV pd ++ junk) :: cl bl 91 [V12_] :: sl 9 1 V12_ (List.length (ws ++ [pd])) (strs (ws ++ [pd])) :: cl pw 142 [(Value.iface 89 (Value.pointer (some ⟨bl, 0, none⟩))), (Value.int .i64 (po : Int)), (Value.int .i64 (page : Int)), (Value.int .i64 (pd.length : Int)), (Value.slice (some ⟨bb, 0, none⟩) (wm + page) (wm + page)), (Value.int .i64 (wm : Int))] :: F) := H15_
    have S19_ := Same.trans (Same.trans (Same.refl w) (Same.drew _)) S16_
    refine ⟨⟨Holds.rd H15_ 4 rfl, Holds.ro_at H15_ 0 rfl⟩, ?_⟩
    refine A_take 16 (ls' := #[true, true, true, true, true, true, true, true, true, true, true, true, true, true, true, true, true, false, false, false, false]) (v := (Value.tuple #[(Value.int .i64 (pd.length : Int)), (Value.nilIface)])) rfl (by kernel_rfl) (by kernel_rfl) (by kernel_rfl) (by kernel_rfl) (fun _ _ _ h => h) (fun w hS => x_move rfl) ⟨Holds.rd H15_ 4 rfl, Holds.ro_at H15_ 0 rfl⟩ ?_
    refine A_take 17 (ls' := #[true, true, true, true, true, true, true, true, true, true, true, true, true, true, true, true, true, true, false, false, false]) (v := (Value.int .i64 (pd.length : Int))) rfl (by kernel_rfl) (by kernel_rfl) (by kernel_rfl) (by kernel_rfl) (fun _ _ _ h => h) (fun w hS => by kernel_rfl) ⟨Holds.rd H15_ 4 rfl, Holds.ro_at H15_ 0 rfl⟩ ?_
    refine A_take 18 (ls' := #[true, true, true, true, true, true, true, true, true, true, true, true, true, true, true, true, true, true, true, false, false]) (v := (Value.nilIface)) rfl (by kernel_rfl) (by kernel_rfl) (by kernel_rfl) (by kernel_rfl) (fun _ _ _ h => h) (fun w hS => by kernel_rfl) ⟨Holds.rd H15_ 4 rfl, Holds.ro_at H15_ 0 rfl⟩ ?_
    refine A_take 19 (ls' := #[true, true, true, true, true, true, true, true, true, true, true, true, true, true, true, true, true, true, true, true, false]) (v := (Value.int .i64 (pd.length : Int))) rfl (by kernel_rfl) (by kernel_rfl) (by kernel_rfl) (by kernel_rfl) (fun _ _ _ h => h) (fun w hS => x_assign rfl) ⟨Holds.rd H15_ 4 rfl, Holds.ro_at H15_ 0 rfl⟩ ?_
    refine A_take 20 (ls' := #[true, true, true, true, true, true, true, true, true, true, true, true, true, true, true, true, true, true, true, true, true]) (v := (Value.nilIface)) rfl (by kernel_rfl) (by kernel_rfl) (by kernel_rfl) (by kernel_rfl) (fun _ _ _ h => h) (fun w hS => x_assign rfl) ⟨Holds.rd H15_ 4 rfl, Holds.ro_at H15_ 0 rfl⟩ ?_
    refine A_done (by kernel_rfl) ?_
    refine (X_then (hK9_ _ _ ?_))
    clear hK9_
    refine C_seq (fun K20_ hK20_ => ?_)
    refine A_start (S := fun w => Sub R (hp w)) (N := 18) foll rfl rfl ?_
    have H22_ : Holds w14_.drew (ro R :: cl bb 5 (bytesV pd ++ junk) :: cl bl 91 [V12_] :: sl 9 1 V12_ (List.length (ws ++ [pd])) (strs (ws ++ [pd])) :: cl pw 142 [(Value.iface 89 (Value.pointer (some ⟨bl, 0, none⟩))), (Value.int .i64 (po : Int)), (Value.int .i64 (page : Int)), (Value.int .i64 (pd.length : Int)), (Value.slice (some ⟨bb, 0, none⟩) (wm + page) (wm + page)), (Value.int .i64 (wm : Int))] :: F) := H15_
    refine A_take 0 (ls' := #[true, false, false, false, false, false, false, false, false, false, false, false, false, false, false, false, false, false]) (v := (Value.pointer (some ⟨pw, 0, none⟩))) rfl (by kernel_rfl) (by kernel_rfl) (by kernel_rfl) (by kernel_rfl) (fun _ _ _ h => h) (fun w hS => x_move rfl) (Holds.ro_at H22_ 0 rfl) ?_
    refine A_take 1 (ls' := #[true, true, false, false, false, false, false, false, false, false, false, false, false, false, false, false, false, false]) (v := (Value.pointer (some ⟨pw, 0, none⟩))) rfl (by kernel_rfl) (by kernel_rfl) (by kernel_rfl) (by kernel_rfl) (fun _ _ _ h => h) (fun w hS => x_move rfl) (Holds.ro_at H22_ 0 rfl) ?_
    refine A_take 2 (ls' := #[true, true, true, false, false, false, false, false, false, false, false, false, false, false, false, false, false, false]) (v := (Value.pointer (some ⟨pw, 0, none⟩))) rfl (by kernel_rfl) (by kernel_rfl) (by kernel_rfl) (by kernel_rfl) (fun _ _ _ h => h) (fun w hS => by kernel_rfl) (Holds.ro_at H22_ 0 rfl) ?_
    refine A_take 3 (ls' := #[true, true, true, true, false, false, false, false, false, false, false, false, false, false, false, false, false, false]) (v := (Value.pointer (some ⟨pw, 1, none⟩))) rfl (by kernel_rfl) (by kernel_rfl) (by kernel_rfl) (by kernel_rfl) (fun _ _ _ h => h) (fun w hS => by kernel_rfl) (Holds.ro_at H22_ 0 rfl) ?_
    refine A_take 5 (ls' := #[true, true, true, true, false, true, false, false, false, false, false, false, false, false, false, false, false, false]) (v := (Value.pointer (some ⟨pw, 0, none⟩))) rfl (by kernel_rfl) (by kernel_rfl) (by kernel_rfl) (by kernel_rfl) (fun _ _ _ h => h) (fun w hS => x_move rfl) (Holds.ro_at H22_ 0 rfl) ?_
    refine A_take 6 (ls' := #[true, true, true, true, false, true, true, false, false, false, false, false, false, false, false, false, false, false]) (v := (Value.pointer (some ⟨pw, 0, none⟩))) rfl (by kernel_rfl) (by kernel_rfl) (by kernel_rfl) (by kernel_rfl) (fun _ _ _ h => h) (fun w hS => by kernel_rfl) (Holds.ro_at H22_ 0 rfl) ?_
    refine A_take 7 (ls' := #[true, true, true, true, false, true, true, true, false, false, false, false, false, false, false, false, false, false]) (v := (Value.pointer (some ⟨pw, 3, none⟩))) rfl (by kernel_rfl) (by kernel_rfl) (by kernel_rfl) (by kernel_rfl) (fun _ _ _ h => h) (fun w hS => by kernel_rfl) (Holds.ro_at H22_ 0 rfl) ?_
    refine A_take 10 (ls' := #[true, true, true, true, false, true, true, true, false, false, true, false, false, false, false, false, false, false]) (v := (Value.pointer (some ⟨pw, 0, none⟩))) rfl (by kernel_rfl) (by kernel_rfl) (by kernel_rfl) (by kernel_rfl) (fun _ _ _ h => h) (fun w hS => x_move rfl) (Holds.ro_at H22_ 0 rfl) ?_
    refine A_take 11 (ls' := #[true, true, true, true, false, true, true, true, false, false, true, true, false, false, false, false, false, false]) (v := (Value.pointer (some ⟨pw, 0, none⟩))) rfl (by kernel_rfl) (by kernel_rfl) (by kernel_rfl) (by kernel_rfl) (fun _ _ _ h => h) (fun w hS => by kernel_rfl) (Holds.ro_at H22_ 0 rfl) ?_
    refine A_take 12 (ls' := #[true, true, true, true, false, true, true, true, false, false, true, true, true, false, false, false, false, false]) (v := (Value.pointer (some ⟨pw, 2, none⟩))) rfl (by kernel_rfl) (by kernel_rfl) (by kernel_rfl) (by kernel_rfl) (fun _ _ _ h => h) (fun w hS => by kernel_rfl) (Holds.ro_at H22_ 0 rfl) ?_
    refine A_ready (i := 4) (rs := [8, 13]) (by kernel_rfl) ?_
    refine AllR.cons ?_ ?_
    · skip
      refine A_op (ls' := #[true, true, true, true, true, true, true, true, false, false, true, true, true, false, false, false, false, false]) rfl (by kernel_rfl) (T_val (v := (Value.int .i64 (po : Int))) (x_load1 rfl Try.underlying3 rfl ((Holds.rd H22_ 4 rfl) 1 (Value.int .i64 (po : Int)) rfl)) ?_)
      refine ⟨(Holds.ro_at H22_ 0 rfl), ?_⟩
      refine A_ready (i := 8) (rs := [13]) (by kernel_rfl) ?_
      refine AllR.cons ?_ ?_
      · skip
        refine A_op (ls' := #[true, true, true, true, true, true, true, true, true, false, true, true, true, false, false, false, false, false]) rfl (by kernel_rfl) (T_val (v := (Value.int .i64 (pd.length : Int))) (x_load1 rfl Try.underlying3 rfl ((Holds.rd H22_ 4 rfl) 3 (Value.int .i64 (pd.length : Int)) rfl)) ?_)
        refine ⟨(Holds.ro_at H22_ 0 rfl), ?_⟩
        refine A_take 9 (ls' := #[true, true, true, true, true, true, true, true, true, true, true, true, true, false, false, false, false, false]) (v := (Value.int .i64 ((po : Int) + (pd.length : Int)))) rfl (by kernel_rfl) (by kernel_rfl) (by kernel_rfl) (by kernel_rfl) (fun _ _ _ h => h) (fun w hS => x_bin rfl rfl (ib_add (IntWalk.i64_in _ (by omega)))) (Holds.ro_at H22_ 0 rfl) ?_
        refine A_ready (i := 13) (rs := []) (by kernel_rfl) ?_
        refine AllR.cons ?_ AllR.nil
        refine A_op (ls' := #[true, true, true, true, true, true, true, true, true, true, true, true, true, true, false, false, false, false]) rfl (by kernel_rfl) (T_val (v := (Value.int .i64 (page : Int))) (x_load1 rfl Try.underlying3 rfl ((Holds.rd H22_ 4 rfl) 2 (Value.int .i64 (page : Int)) rfl)) ?_)
        refine ⟨(Holds.ro_at H22_ 0 rfl), ?_⟩
        refine A_take 14 (ls' := #[true, true, true, true, true, true, true, true, true, true, true, true, true, true, true, false, false, false]) (v := (Value.int .i64 (((po + pd.length) % page : Nat) : Int))) rfl (by kernel_rfl) (by kernel_rfl) (by kernel_rfl) (by kernel_rfl) (fun _ _ _ h => h) (fun w hS => x_bin rfl rfl (ib_remN (x := po + pd.length) (y := page) (by omega) (by omega) (by omega) (by omega) rfl)) (Holds.ro_at H22_ 0 rfl) ?_
        refine A_take 15 (ls' := #[true, true, true, true, true, true, true, true, true, true, true, true, true, true, true, true, false, false]) (v := (Value.pointer (some ⟨pw, 0, none⟩))) rfl (by kernel_rfl) (by kernel_rfl) (by kernel_rfl) (by kernel_rfl) (fun _ _ _ h => h) (fun w hS => by kernel_rfl) (Holds.ro_at H22_ 0 rfl) ?_
        refine A_take 16 (ls' := #[true, true, true, true, true, true, true, true, true, true, true, true, true, true, true, true, true, false]) (v := (Value.pointer (some ⟨pw, 1, none⟩))) rfl (by kernel_rfl) (by kernel_rfl) (by kernel_rfl) (by kernel_rfl) (fun _ _ _ h => h) (fun w hS => by kernel_rfl) (Holds.ro_at H22_ 0 rfl) ?_
        refine A_ready (i := 17) (rs := []) (by kernel_rfl) ?_
        refine AllR.cons ?_ AllR.nil
        refine A_op0 (ls' := #[true, true, true, true, true, true, true, true, true, true, true, true, true, true, true, true, true, true]) rfl (by kernel_rfl) (T_store1 (v := (Value.int .i64 (((po + pd.length) % page : Nat) : Int))) rfl rfl z3 rfl H22_ 4 rfl (Nat.le_of_ble_eq_true (by rfl)) ?_)
        intro w23_ S25_ H24_
        replace H24_ : Holds w23_ (ro R :: cl bb 5 (bytesV pd ++ junk) :: cl bl 91 [V12_] :: sl 9 1 V12_ (List.length (ws ++ [pd])) (strs (ws ++ [pd])) :: cl pw 142 [(Value.iface 89 (Value.pointer (some ⟨bl, 0, none⟩))), (Value.int .i64 (((po + pd.length) % page : Nat) : Int)), (Value.int .i64 (page : Int)), (Value.int .i64 (pd.length : Int)), (Value.slice (some ⟨bb, 0, none⟩) (wm + page) (wm + page)), (Value.int .i64 (wm : Int))] :: F) := H24_
        have S26_ := Same.trans (Same.trans S19_ (Same.drew _)) S25_
        refine ⟨(Holds.ro_at H24_ 0 rfl), ?_⟩
        refine A_done (by kernel_rfl) ?_
        refine (X_then (hK20_ _ _ ?_))
        clear hK20_
        refine C_seq (fun K27_ hK27_ => ?_)
        refine C_reg ?_
        refine S_list (T_val (v := (Value.pointer (some ⟨pw, 0, none⟩))) (x_move rfl) ?_)
        refine S_list (T_val (v := (Value.pointer (some ⟨pw, 0, none⟩))) (by kernel_rfl) ?_)
        refine S_list (T_val (v := (Value.pointer (some ⟨pw, 3, none⟩))) (by kernel_rfl) ?_)
        refine S_list0 (T_store1 (v := (Value.int .i64 0)) rfl rfl z3 rfl H24_ 4 rfl (Nat.le_of_ble_eq_true (by rfl)) ?_)
        intro w28_ S30_ H29_
        replace H29_ : Holds w28_ (ro R :: cl bb 5 (bytesV pd ++ junk) :: cl bl 91 [V12_] :: sl 9 1 V12_ (List.length (ws ++ [pd])) (strs (ws ++ [pd])) :: cl pw 142 [(Value.iface 89 (Value.pointer (some ⟨bl, 0, none⟩))), (Value.int .i64 (((po + pd.length) % page : Nat) : Int)), (Value.int .i64 (page : Int)), (Value.int .i64 0), (Value.slice (some ⟨bb, 0, none⟩) (wm + page) (wm + page)), (Value.int .i64 (wm : Int))] :: F) := H29_
        have S31_ := Same.trans S26_ S30_
        refine wpList_nil ?_
        refine (X_then (hK27_ _ _ ?_))
        clear hK27_
        refine C_seq (fun K32_ hK32_ => ?_)
        refine C_reg ?_
        refine S_list (T_val (v := (Value.int .i64 (pd.length : Int))) (x_move rfl) ?_)
        refine S_list (T_val (v := (Value.nilIface)) (x_move rfl) ?_)
        refine S_list (T_val (v := (Value.int .i64 (pd.length : Int))) (x_assign rfl) ?_)
        refine S_list (T_val (v := (Value.nilIface)) (x_assign rfl) ?_)
        refine wpList_nil ?_
        refine (X_then (hK32_ _ _ ?_))
        clear hK32_
        refine C_ret ?_
        refine R_any (v := (Value.tuple #[(Value.int .i64 (pd.length : Int)), (Value.nilIface)])) (run_results2 rfl rfl rfl) ?_
        have H33_ : Holds w28_ (ro R :: cl bb 5 (bytesV [] ++ (bytesV pd ++ junk)) :: cl bl 91 [V12_] :: sl 9 1 V12_ (List.length (ws ++ [pd])) (strs (ws ++ [pd])) :: cl pw 142 [(Value.iface 89 (Value.pointer (some ⟨bl, 0, none⟩))), (Value.int .i64 (((po + pd.length) % page : Nat) : Int)), (Value.int .i64 (page : Int)), (Value.int .i64 0), (Value.slice (some ⟨bb, 0, none⟩) (wm + page) (wm + page)), (Value.int .i64 (wm : Int))] :: F) := cast1 (P := fun (c__ : List Value) => Holds w28_ (ro R :: cl bb 5 c__ :: cl bl 91 [V12_] :: sl 9 1 V12_ (List.length (ws ++ [pd])) (strs (ws ++ [pd])) :: cl pw 142 [(Value.iface 89 (Value.pointer (some ⟨bl, 0, none⟩))), (Value.int .i64 (((po + pd.length) % page : Nat) : Int)), (Value.int .i64 (page : Int)), (Value.int .i64 0), (Value.slice (some ⟨bb, 0, none⟩) (wm + page) (wm + page)), (Value.int .i64 (wm : Int))] :: F)) (rfl : bytesV pd ++ junk = bytesV [] ++ (bytesV pd ++ junk)) H29_
        have H34_ : Holds w28_ (ro R :: cl pw 142 [(Value.iface 89 (Value.pointer (some ⟨bl, 0, none⟩))), (Value.int .i64 (((po + pd.length) % page : Nat) : Int)), (Value.int .i64 (page : Int)), (Value.int .i64 0), (Value.slice (some ⟨bb, 0, none⟩) (wm + page) (wm + page)), (Value.int .i64 (wm : Int))] :: cl bb 5 (bytesV [] ++ (bytesV pd ++ junk)) :: cl bl 91 [V12_] :: sl 9 1 V12_ (List.length (ws ++ [pd])) (strs (ws ++ [pd])) :: F) := (Holds.bring (Holds.bring (Holds.bring (Holds.bring (Holds.bring H33_ 3 rfl) 3 rfl) 3 rfl) 4 rfl) 4 rfl)
        exact ⟨_, [cl pw 142 [(Value.iface 89 (Value.pointer (some ⟨bl, 0, none⟩))), (Value.int .i64 (((po + pd.length) % page : Nat) : Int)), (Value.int .i64 (page : Int)), (Value.int .i64 0), (Value.slice (some ⟨bb, 0, none⟩) (wm + page) (wm + page)), (Value.int .i64 (wm : Int))], cl bb 5 (bytesV [] ++ (bytesV pd ++ junk)), cl bl 91 [V12_], sl 9 1 V12_ (List.length (ws ++ [pd])) (strs (ws ++ [pd]))], rfl, ⟨_, (po + pd.length) % page, _, V12_, [pd], rfl, rfl, ⟨fun h => by subst h; simp_all, fun _ => ⟨rfl, rfl⟩⟩, by rw [List.length_append, bytesV_len]; omega⟩, S31_, H34_⟩
      refine AllR.cons ?_ AllR.nil
      refine A_op (ls' := #[true, true, true, true, true, true, true, true, false, false, true, true, true, true, false, false, false, false]) rfl (by kernel_rfl) (T_val (v := (Value.int .i64 (page : Int))) (x_load1 rfl Try.underlying3 rfl ((Holds.rd H22_ 4 rfl) 2 (Value.int .i64 (page : Int)) rfl)) ?_)
      refine ⟨(Holds.ro_at H22_ 0 rfl), ?_⟩
      refine A_ready (i := 8) (rs := []) (by kernel_rfl) ?_
      refine AllR.cons ?_ AllR.nil
      refine A_op (ls' := #[true, true, true, true, true, true, true, true, true, false, true, true, true, true, false, false, false, false]) rfl (by kernel_rfl) (T_val (v := (Value.int .i64 (pd.length : Int))) (x_load1 rfl Try.underlying3 rfl ((Holds.rd H22_ 4 rfl) 3 (Value.int .i64 (pd.length : Int)) rfl)) ?_)
      refine ⟨(Holds.ro_at H22_ 0 rfl), ?_⟩
      refine A_take 9 (ls' := #[true, true, true, true, true, true, true, true, true, true, true, true, true, true, false, false, false, false]) (v := (Value.int .i64 ((po : Int) + (pd.length : Int)))) rfl (by kernel_rfl) (by kernel_rfl) (by kernel_rfl) (by kernel_rfl) (fun _ _ _ h => h) (fun w hS => x_bin rfl rfl (ib_add (IntWalk.i64_in _ (by omega)))) (Holds.ro_at H22_ 0 rfl) ?_
      refine A_take 14 (ls' := #[true, true, true, true, true, true, true, true, true, true, true, true, true, true, true, false, false, false]) (v := (Value.int .i64 (((po + pd.length) % page : Nat) : Int))) rfl (by kernel_rfl) (by kernel_rfl) (by kernel_rfl) (by kernel_rfl) (fun _ _ _ h => h) (fun w hS => x_bin rfl rfl (ib_remN (x := po + pd.length) (y := page) (by omega) (by omega) (by omega) (by omega) rfl)) (Holds.ro_at H22_ 0 rfl) ?_
      refine A_take 15 (ls' := #[true, true, true, true, true, true, true, true, true, true, true, true, true, true, true, true, false, false]) (v := (Value.pointer (some ⟨pw, 0, none⟩))) rfl (by kernel_rfl) (by kernel_rfl) (by kernel_rfl) (by kernel_rfl) (fun _ _ _ h => h) (fun w hS => by kernel_rfl) (Holds.ro_at H22_ 0 rfl) ?_
      refine A_take 16 (ls' := #[true, true, true, true, true, true, true, true, true, true, true, true, true, true, true, true, true, false]) (v := (Value.pointer (some ⟨pw, 1, none⟩))) rfl (by kernel_rfl) (by kernel_rfl) (by kernel_rfl) (by kernel_rfl) (fun _ _ _ h => h) (fun w hS => by kernel_rfl) (Holds.ro_at H22_ 0 rfl) ?_
      refine A_ready (i := 17) (rs := []) (by kernel_rfl) ?_
      refine AllR.cons ?_ AllR.nil
      refine A_op0 (ls' := #[true, true, true, true, true, true, true, true, true, true, true, true, true, true, true, true, true, true]) rfl (by kernel_rfl) (T_store1 (v := (Value.int .i64 (((po + pd.length) % page : Nat) : Int))) rfl rfl z3 rfl H22_ 4 rfl (Nat.le_of_ble_eq_true (by rfl)) ?_)
      intro w35_ S37_ H36_
      replace H36_ : Holds w35_ (ro R :: cl bb 5 (bytesV pd ++ junk) :: cl bl 91 [V12_] :: sl 9 1 V12_ (List.length (ws ++ [pd])) (strs (ws ++ [pd])) :: cl pw 142 [(Value.iface 89 (Value.pointer (some ⟨bl, 0, none⟩))), (Value.int .i64 (((po + pd.length) % page : Nat) : Int)), (Value.int .i64 (page : Int)), (Value.int .i64 (pd.length : Int)), (Value.slice (some ⟨bb, 0, none⟩) (wm + page) (wm + page)), (Value.int .i64 (wm : Int))] :: F) := H36_
      have S38_ := Same.trans (Same.trans S19_ (Same.drew _)) S37_
      refine ⟨(Holds.ro_at H36_ 0 rfl), ?_⟩
      refine A_done (by kernel_rfl) ?_
      refine (X_then (hK20_ _ _ ?_))
      clear hK20_
      refine C_seq (fun K39_ hK39_ => ?_)
      refine C_reg ?_
      refine S_list (T_val (v := (Value.pointer (some ⟨pw, 0, none⟩))) (x_move rfl) ?_)
      refine S_list (T_val (v := (Value.pointer (some ⟨pw, 0, none⟩))) (by kernel_rfl) ?_)
      refine S_list (T_val (v := (Value.pointer (some ⟨pw, 3, none⟩))) (by kernel_rfl) ?_)
      refine S_list0 (T_store1 (v := (Value.int .i64 0)) rfl rfl z3 rfl H36_ 4 rfl (Nat.le_of_ble_eq_true (by rfl)) ?_)
      intro w40_ S42_ H41_
      replace H41_ : Holds w40_ (ro R :: cl bb 5 (bytesV pd ++ junk) :: cl bl 91 [V12_] :: sl 9 1 V12_ (List.length (ws ++ [pd])) (strs (ws ++ [pd])) :: cl pw 142 [(Value.iface 89 (Value.pointer (some ⟨bl, 0, none⟩))), (Value.int .i64 (((po + pd.length) % page : Nat) : Int)), (Value.int .i64 (page : Int)), (Value.int .i64 0), (Value.slice (some ⟨bb, 0, none⟩) (wm + page) (wm + page)), (Value.int .i64 (wm : Int))] :: F) := H41_
      have S43_ := Same.trans S38_ S42_
      refine wpList_nil ?_
      refine (X_then (hK39_ _ _ ?_))
      clear hK39_
      refine C_seq (fun K44_ hK44_ => ?_)
      refine C_reg ?_
      refine S_list (T_val (v := (Value.int .i64 (pd.length : Int))) (x_move rfl) ?_)
      refine S_list (T_val (v := (Value.nilIface)) (x_move rfl) ?_)
      refine S_list (T_val (v := (Value.int .i64 (pd.length : Int))) (x_assign rfl) ?_)
      refine S_list (T_val (v := (Value.nilIface)) (x_assign rfl) ?_)
      refine wpList_nil ?_
      refine (X_then (hK44_ _ _ ?_))
      clear hK44_
      refine C_ret ?_
      refine R_any (v := (Value.tuple #[(Value.int .i64 (pd.length : Int)), (Value.nilIface)])) (run_results2 rfl rfl rfl) ?_
      have H45_ : Holds w40_ (ro R :: cl bb 5 (bytesV [] ++ (bytesV pd ++ junk)) :: cl bl 91 [V12_] :: sl 9 1 V12_ (List.length (ws ++ [pd])) (strs (ws ++ [pd])) :: cl pw 142 [(Value.iface 89 (Value.pointer (some ⟨bl, 0, none⟩))), (Value.int .i64 (((po + pd.length) % page : Nat) : Int)), (Value.int .i64 (page : Int)), (Value.int .i64 0), (Value.slice (some ⟨bb, 0, none⟩) (wm + page) (wm + page)), (Value.int .i64 (wm : Int))] :: F) := cast1 (P := fun (c__ : List Value) => Holds w40_ (ro R :: cl bb 5 c__ :: cl bl 91 [V12_] :: sl 9 1 V12_ (List.length (ws ++ [pd])) (strs (ws ++ [pd])) :: cl pw 142 [(Value.iface 89 (Value.pointer (some ⟨bl, 0, none⟩))), (Value.int .i64 (((po + pd.length) % page : Nat) : Int)), (Value.int .i64 (page : Int)), (Value.int .i64 0), (Value.slice (some ⟨bb, 0, none⟩) (wm + page) (wm + page)), (Value.int .i64 (wm : Int))] :: F)) (rfl : bytesV pd ++ junk = bytesV [] ++ (bytesV pd ++ junk)) H41_
      have H46_ : Holds w40_ (ro R :: cl pw 142 [(Value.iface 89 (Value.pointer (some ⟨bl, 0, none⟩))), (Value.int .i64 (((po + pd.length) % page : Nat) : Int)), (Value.int .i64 (page : Int)), (Value.int .i64 0), (Value.slice (some ⟨bb, 0, none⟩) (wm + page) (wm + page)), (Value.int .i64 (wm : Int))] :: cl bb 5 (bytesV [] ++ (bytesV pd ++ junk)) :: cl bl 91 [V12_] :: sl 9 1 V12_ (List.length (ws ++ [pd])) (strs (ws ++ [pd])) :: F) := (Holds.bring (Holds.bring (Holds.bring (Holds.bring (Holds.bring H45_ 3 rfl) 3 rfl) 3 rfl) 4 rfl) 4 rfl)
      exact ⟨_, [cl pw 142 [(Value.iface 89 (Value.pointer (some ⟨bl, 0, none⟩))), (Value.int .i64 (((po + pd.length) % page : Nat) : Int)), (Value.int .i64 (page : Int)), (Value.int .i64 0), (Value.slice (some ⟨bb, 0, none⟩) (wm + page) (wm + page)), (Value.int .i64 (wm : Int))], cl bb 5 (bytesV [] ++ (bytesV pd ++ junk)), cl bl 91 [V12_], sl 9 1 V12_ (List.length (ws ++ [pd])) (strs (ws ++ [pd]))], rfl, ⟨_, (po + pd.length) % page, _, V12_, [pd], rfl, rfl, ⟨fun h => by subst h; simp_all, fun _ => ⟨rfl, rfl⟩⟩, by rw [List.length_append, bytesV_len]; omega⟩, S43_, H46_⟩
    refine AllR.cons ?_ ?_
    · skip
      refine A_op (ls' := #[true, true, true, true, false, true, true, true, true, false, true, true, true, false, false, false, false, false]) rfl (by kernel_rfl) (T_val (v := (Value.int .i64 (pd.length : Int))) (x_load1 rfl Try.underlying3 rfl ((Holds.rd H22_ 4 rfl) 3 (Value.int .i64 (pd.length : Int)) rfl)) ?_)
      refine ⟨(Holds.ro_at H22_ 0 rfl), ?_⟩
      refine A_ready (i := 4) (rs := [13]) (by kernel_rfl) ?_
      refine AllR.cons ?_ ?_
      · skip
        refine A_op (ls' := #[true, true, true, true, true, true, true, true, true, false, true, true, true, false, false, false, false, false]) rfl (by kernel_rfl) (T_val (v := (Value.int .i64 (po : Int))) (x_load1 rfl Try.underlying3 rfl ((Holds.rd H22_ 4 rfl) 1 (Value.int .i64 (po : Int)) rfl)) ?_)
        refine ⟨(Holds.ro_at H22_ 0 rfl), ?_⟩
        refine A_take 9 (ls' := #[true, true, true, true, true, true, true, true, true, true, true, true, true, false, false, false, false, false]) (v := (Value.int .i64 ((po : Int) + (pd.length : Int)))) rfl (by kernel_rfl) (by kernel_rfl) (by kernel_rfl) (by kernel_rfl) (fun _ _ _ h => h) (fun w hS => x_bin rfl rfl (ib_add (IntWalk.i64_in _ (by omega)))) (Holds.ro_at H22_ 0 rfl) ?_
        refine A_ready (i := 13) (rs := []) (by kernel_rfl) ?_
        refine AllR.cons ?_ AllR.nil
        refine A_op (ls' := #[true, true, true, true, true, true, true, true, true, true, true, true, true, true, false, false, false, false]) rfl (by kernel_rfl) (T_val (v := (Value.int .i64 (page : Int))) (x_load1 rfl Try.underlying3 rfl ((Holds.rd H22_ 4 rfl) 2 (Value.int .i64 (page : Int)) rfl)) ?_)
        refine ⟨(Holds.ro_at H22_ 0 rfl), ?_⟩
        refine A_take 14 (ls' := #[true, true, true, true, true, true, true, true, true, true, true, true, true, true, true, false, false, false]) (v := (Value.int .i64 (((po + pd.length) % page : Nat) : Int))) rfl (by kernel_rfl) (by kernel_rfl) (by kernel_rfl) (by kernel_rfl) (fun _ _ _ h => h) (fun w hS => x_bin rfl rfl (ib_remN (x := po + pd.length) (y := page) (by omega) (by omega) (by omega) (by omega) rfl)) (Holds.ro_at H22_ 0 rfl) ?_
        refine A_take 15 (ls' := #[true, true, true, true, true, true, true, true, true, true, true, true, true, true, true, true, false, false]) (v := (Value.pointer (some ⟨pw, 0, none⟩))) rfl (by kernel_rfl) (by kernel_rfl) (by kernel_rfl) (by kernel_rfl) (fun _ _ _ h => h) (fun w hS => by kernel_rfl) (Holds.ro_at H22_ 0 rfl) ?_
        refine A_take 16 (ls' := #[true, true, true, true, true, true, true, true, true, true, true, true, true, true, true, true, true, false]) (v := (Value.pointer (some ⟨pw, 1, none⟩))) rfl (by kernel_rfl) (by kernel_rfl) (by kernel_rfl) (by kernel_rfl) (fun _ _ _ h => h) (fun w hS => by kernel_rfl) (Holds.ro_at H22_ 0 rfl) ?_
        refine A_ready (i := 17) (rs := []) (by kernel_rfl) ?_
        refine AllR.cons ?_ AllR.nil
        refine A_op0 (ls' := #[true, true, true, true, true, true, true, true, true, true, true, true, true, true, true, true, true, true]) rfl (by kernel_rfl) (T_store1 (v := (Value.int .i64 (((po + pd.length) % page : Nat) : Int))) rfl rfl z3 rfl H22_ 4 rfl (Nat.le_of_ble_eq_true (by rfl)) ?_)
        intro w47_ S49_ H48_
        replace H48_ : Holds w47_ (ro R :: cl bb 5 (bytesV pd ++ junk) :: cl bl 91 [V12_] :: sl 9 1 V12_ (List.length (ws ++ [pd])) (strs (ws ++ [pd])) :: cl pw 142 [(Value.iface 89 (Value.pointer (some ⟨bl, 0, none⟩))), (Value.int .i64 (((po + pd.length) % page : Nat) : Int)), (Value.int .i64 (page : Int)), (Value.int .i64 (pd.length : Int)), (Value.slice (some ⟨bb, 0, none⟩) (wm + page) (wm + page)), (Value.int .i64 (wm : Int))] :: F) := H48_
        have S50_ := Same.trans (Same.trans S19_ (Same.drew _)) S49_
        refine ⟨(Holds.ro_at H48_ 0 rfl), ?_⟩
        refine A_done (by kernel_rfl) ?_
        refine (X_then (hK20_ _ _ ?_))
        clear hK20_
        refine C_seq (fun K51_ hK51_ => ?_)
        refine C_reg ?_
        refine S_list (T_val (v := (Value.pointer (some ⟨pw, 0, none⟩))) (x_move rfl) ?_)
        refine S_list (T_val (v := (Value.pointer (some ⟨pw, 0, none⟩))) (by kernel_rfl) ?_)
        refine S_list (T_val (v := (Value.pointer (some ⟨pw, 3, none⟩))) (by kernel_rfl) ?_)
        refine S_list0 (T_store1 (v := (Value.int .i64 0)) rfl rfl z3 rfl H48_ 4 rfl (Nat.le_of_ble_eq_true (by rfl)) ?_)
        intro w52_ S54_ H53_
        replace H53_ : Holds w52_ (ro R :: cl bb 5 (bytesV pd ++ junk) :: cl bl 91 [V12_] :: sl 9 1 V12_ (List.length (ws ++ [pd])) (strs (ws ++ [pd])) :: cl pw 142 [(Value.iface 89 (Value.pointer (some ⟨bl, 0, none⟩))), (Value.int .i64 (((po + pd.length) % page : Nat) : Int)), (Value.int .i64 (page : Int)), (Value.int .i64 0), (Value.slice (some ⟨bb, 0, none⟩) (wm + page) (wm + page)), (Value.int .i64 (wm : Int))] :: F) := H53_
        have S55_ := Same.trans S50_ S54_
        refine wpList_nil ?_
        refine (X_then (hK51_ _ _ ?_))
        clear hK51_
        refine C_seq (fun K56_ hK56_ => ?_)
        refine C_reg ?_
        refine S_list (T_val (v := (Value.int .i64 (pd.length : Int))) (x_move rfl) ?_)
        refine S_list (T_val (v := (Value.nilIface)) (x_move rfl) ?_)
        refine S_list (T_val (v := (Value.int .i64 (pd.length : Int))) (x_assign rfl) ?_)
        refine S_list (T_val (v := (Value.nilIface)) (x_assign rfl) ?_)
        refine wpList_nil ?_
        refine (X_then (hK56_ _ _ ?_))
        clear hK56_
        refine C_ret ?_
        refine R_any (v := (Value.tuple #[(Value.int .i64 (pd.length : Int)), (Value.nilIface)])) (run_results2 rfl rfl rfl) ?_
        have H57_ : Holds w52_ (ro R :: cl bb 5 (bytesV [] ++ (bytesV pd ++ junk)) :: cl bl 91 [V12_] :: sl 9 1 V12_ (List.length (ws ++ [pd])) (strs (ws ++ [pd])) :: cl pw 142 [(Value.iface 89 (Value.pointer (some ⟨bl, 0, none⟩))), (Value.int .i64 (((po + pd.length) % page : Nat) : Int)), (Value.int .i64 (page : Int)), (Value.int .i64 0), (Value.slice (some ⟨bb, 0, none⟩) (wm + page) (wm + page)), (Value.int .i64 (wm : Int))] :: F) := cast1 (P := fun (c__ : List Value) => Holds w52_ (ro R :: cl bb 5 c__ :: cl bl 91 [V12_] :: sl 9 1 V12_ (List.length (ws ++ [pd])) (strs (ws ++ [pd])) :: cl pw 142 [(Value.iface 89 (Value.pointer (some ⟨bl, 0, none⟩))), (Value.int .i64 (((po + pd.length) % page : Nat) : Int)), (Value.int .i64 (page : Int)), (Value.int .i64 0), (Value.slice (some ⟨bb, 0, none⟩) (wm + page) (wm + page)), (Value.int .i64 (wm : Int))] :: F)) (rfl : bytesV pd ++ junk = bytesV [] ++ (bytesV pd ++ junk)) H53_
        have H58_ : Holds w52_ (ro R :: cl pw 142 [(Value.iface 89 (Value.pointer (some ⟨bl, 0, none⟩))), (Value.int .i64 (((po + pd.length) % page : Nat) : Int)), (Value.int .i64 (page : Int)), (Value.int .i64 0), (Value.slice (some ⟨bb, 0, none⟩) (wm + page) (wm + page)), (Value.int .i64 (wm : Int))] :: cl bb 5 (bytesV [] ++ (bytesV pd ++ junk)) :: cl bl 91 [V12_] :: sl 9 1 V12_ (List.length (ws ++ [pd])) (strs (ws ++ [pd])) :: F) := (Holds.bring (Holds.bring (Holds.bring (Holds.bring (Holds.bring H57_ 3 rfl) 3 rfl) 3 rfl) 4 rfl) 4 rfl)
        exact ⟨_, [cl pw 142 [(Value.iface 89 (Value.pointer (some ⟨bl, 0, none⟩))), (Value.int .i64 (((po + pd.length) % page : Nat) : Int)), (Value.int .i64 (page : Int)), (Value.int .i64 0), (Value.slice (some ⟨bb, 0, none⟩) (wm + page) (wm + page)), (Value.int .i64 (wm : Int))], cl bb 5 (bytesV [] ++ (bytesV pd ++ junk)), cl bl 91 [V12_], sl 9 1 V12_ (List.length (ws ++ [pd])) (strs (ws ++ [pd]))], rfl, ⟨_, (po + pd.length) % page, _, V12_, [pd], rfl, rfl, ⟨fun h => by subst h; simp_all, fun _ => ⟨rfl, rfl⟩⟩, by rw [List.length_append, bytesV_len]; omega⟩, S55_, H58_⟩
      refine AllR.cons ?_ AllR.nil
      refine A_op (ls' := #[true, true, true, true, false, true, true, true, true, false, true, true, true, true, false, false, false, false]) rfl (by kernel_rfl) (T_val (v := (Value.int .i64 (page : Int))) (x_load1 rfl Try.underlying3 rfl ((Holds.rd H22_ 4 rfl) 2 (Value.int .i64 (page : Int)) rfl)) ?_)
      refine ⟨(Holds.ro_at H22_ 0 rfl), ?_⟩
      refine A_ready (i := 4) (rs := []) (by kernel_rfl) ?_
      refine AllR.cons ?_ AllR.nil
      refine A_op (ls' := #[true, true, true, true, true, true, true, true, true, false, true, true, true, true, false, false, false, false]) rfl (by kernel_rfl) (T_val (v := (Value.int .i64 (po : Int))) (x_load1 rfl Try.underlying3 rfl ((Holds.rd H22_ 4 rfl) 1 (Value.int .i64 (po : Int)) rfl)) ?_)
      refine ⟨(Holds.ro_at H22_ 0 rfl), ?_⟩
      refine A_take 9 (ls' := #[true, true, true, true, true, true, true, true, true, true, true, true, true, true, false, false, false, false]) (v := (Value.int .i64 ((po : Int) + (pd.length : Int)))) rfl (by kernel_rfl) (by kernel_rfl) (by kernel_rfl) (by kernel_rfl) (fun _ _ _ h => h) (fun w hS => x_bin rfl rfl (ib_add (IntWalk.i64_in _ (by omega)))) (Holds.ro_at H22_ 0 rfl) ?_
      refine A_take 14 (ls' := #[true, true, true, true, true, true, true, true, true, true, true, true, true, true, true, false, false, false]) (v := (Value.int .i64 (((po + pd.length) % page : Nat) : Int))) rfl (by kernel_rfl) (by kernel_rfl) (by kernel_rfl) (by kernel_rfl) (fun _ _ _ h => h) (fun w hS => x_bin rfl rfl (ib_remN (x := po + pd.length) (y := page) (by omega) (by omega) (by omega) (by omega) rfl)) (Holds.ro_at H22_ 0 rfl) ?_
      refine A_take 15 (ls' := #[true, true, true, true, true, true, true, true, true, true, true, true, true, true, true, true, false, false]) (v := (Value.pointer (some ⟨pw, 0, none⟩))) rfl (by kernel_rfl) (by kernel_rfl) (by kernel_rfl) (by kernel_rfl) (fun _ _ _ h => h) (fun w hS => by kernel_rfl) (Holds.ro_at H22_ 0 rfl) ?_
      refine A_take 16 (ls' := #[true, true, true, true, true, true, true, true, true, true, true, true, true, true, true, true, true, false]) (v := (Value.pointer (some ⟨pw, 1, none⟩))) rfl (by kernel_rfl) (by kernel_rfl) (by kernel_rfl) (by kernel_rfl) (fun _ _ _ h => h) (fun w hS => by kernel_rfl) (Holds.ro_at H22_ 0 rfl) ?_
      refine A_ready (i := 17) (rs := []) (by kernel_rfl) ?_
      refine AllR.cons ?_ AllR.nil
      refine A_op0 (ls' := #[true, true, true, true, true, true, true, true, true, true, true, true, true, true, true, true, true, true]) rfl (by kernel_rfl) (T_store1 (v := (Value.int .i64 (((po + pd.length) % page : Nat) : Int))) rfl rfl z3 rfl H22_ 4 rfl (Nat.le_of_ble_eq_true (by rfl)) ?_)
      intro w59_ S61_ H60_
      replace H60_ : Holds w59_ (ro R :: cl bb 5 (bytesV pd ++ junk) :: cl bl 91 [V12_] :: sl 9 1 V12_ (List.length (ws ++ [pd])) (strs (ws ++ [pd])) :: cl pw 142 [(Value.iface 89 (Value.pointer (some ⟨bl, 0, none⟩))), (Value.int .i64 (((po + pd.length) % page : Nat) : Int)), (Value.int .i64 (page : Int)), (Value.int .i64 (pd.length : Int)), (Value.slice (some ⟨bb, 0, none⟩) (wm + page) (wm + page)), (Value.int .i64 (wm : Int))] :: F) := H60_
      have S62_ := Same.trans (Same.trans S19_ (Same.drew _)) S61_
      refine ⟨(Holds.ro_at H60_ 0 rfl), ?_⟩
      refine A_done (by kernel_rfl) ?_
      refine (X_then (hK20_ _ _ ?_))
      clear hK20_
      refine C_seq (fun K63_ hK63_ => ?_)
      refine C_reg ?_
      refine S_list (T_val (v := (Value.pointer (some ⟨pw, 0, none⟩))) (x_move rfl) ?_)
      refine S_list (T_val (v := (Value.pointer (some ⟨pw, 0, none⟩))) (by kernel_rfl) ?_)
      refine S_list (T_val (v := (Value.pointer (some ⟨pw, 3, none⟩))) (by kernel_rfl) ?_)
      refine S_list0 (T_store1 (v := (Value.int .i64 0)) rfl rfl z3 rfl H60_ 4 rfl (Nat.le_of_ble_eq_true (by rfl)) ?_)
      intro w64_ S66_ H65_
      replace H65_ : Holds w64_ (ro R :: cl bb 5 (bytesV pd ++ junk) :: cl bl 91 [V12_] :: sl 9 1 V12_ (List.length (ws ++ [pd])) (strs (ws ++ [pd])) :: cl pw 142 [(Value.iface 89 (Value.pointer (some ⟨bl, 0, none⟩))), (Value.int .i64 (((po + pd.length) % page : Nat) : Int)), (Value.int .i64 (page : Int)), (Value.int .i64 0), (Value.slice (some ⟨bb, 0, none⟩) (wm + page) (wm + page)), (Value.int .i64 (wm : Int))] :: F) := H65_
      have S67_ := Same.trans S62_ S66_
      refine wpList_nil ?_
      refine (X_then (hK63_ _ _ ?_))
      clear hK63_
      refine C_seq (fun K68_ hK68_ => ?_)
      refine C_reg ?_
      refine S_list (T_val (v := (Value.int .i64 (pd.length : Int))) (x_move rfl) ?_)
      refine S_list (T_val (v := (Value.nilIface)) (x_move rfl) ?_)
      refine S_list (T_val (v := (Value.int .i64 (pd.length : Int))) (x_assign rfl) ?_)
      refine S_list (T_val (v := (Value.nilIface)) (x_assign rfl) ?_)
      refine wpList_nil ?_
      refine (X_then (hK68_ _ _ ?_))
      clear hK68_
      refine C_ret ?_
      refine R_any (v := (Value.tuple #[(Value.int .i64 (pd.length : Int)), (Value.nilIface)])) (run_results2 rfl rfl rfl) ?_
      have H69_ : Holds w64_ (ro R :: cl bb 5 (bytesV [] ++ (bytesV pd ++ junk)) :: cl bl 91 [V12_] :: sl 9 1 V12_ (List.length (ws ++ [pd])) (strs (ws ++ [pd])) :: cl pw 142 [(Value.iface 89 (Value.pointer (some ⟨bl, 0, none⟩))), (Value.int .i64 (((po + pd.length) % page : Nat) : Int)), (Value.int .i64 (page : Int)), (Value.int .i64 0), (Value.slice (some ⟨bb, 0, none⟩) (wm + page) (wm + page)), (Value.int .i64 (wm : Int))] :: F) := cast1 (P := fun (c__ : List Value) => Holds w64_ (ro R :: cl bb 5 c__ :: cl bl 91 [V12_] :: sl 9 1 V12_ (List.length (ws ++ [pd])) (strs (ws ++ [pd])) :: cl pw 142 [(Value.iface 89 (Value.pointer (some ⟨bl, 0, none⟩))), (Value.int .i64 (((po + pd.length) % page : Nat) : Int)), (Value.int .i64 (page : Int)), (Value.int .i64 0), (Value.slice (some ⟨bb, 0, none⟩) (wm + page) (wm + page)), (Value.int .i64 (wm : Int))] :: F)) (rfl : bytesV pd ++ junk = bytesV [] ++ (bytesV pd ++ junk)) H65_
      have H70_ : Holds w64_ (ro R :: cl pw 142 [(Value.iface 89 (Value.pointer (some ⟨bl, 0, none⟩))), (Value.int .i64 (((po + pd.length) % page : Nat) : Int)), (Value.int .i64 (page : Int)), (Value.int .i64 0), (Value.slice (some ⟨bb, 0, none⟩) (wm + page) (wm + page)), (Value.int .i64 (wm : Int))] :: cl bb 5 (bytesV [] ++ (bytesV pd ++ junk)) :: cl bl 91 [V12_] :: sl 9 1 V12_ (List.length (ws ++ [pd])) (strs (ws ++ [pd])) :: F) := (Holds.bring (Holds.bring (Holds.bring (Holds.bring (Holds.bring H69_ 3 rfl) 3 rfl) 3 rfl) 4 rfl) 4 rfl)
      exact ⟨_, [cl pw 142 [(Value.iface 89 (Value.pointer (some ⟨bl, 0, none⟩))), (Value.int .i64 (((po + pd.length) % page : Nat) : Int)), (Value.int .i64 (page : Int)), (Value.int .i64 0), (Value.slice (some ⟨bb, 0, none⟩) (wm + page) (wm + page)), (Value.int .i64 (wm : Int))], cl bb 5 (bytesV [] ++ (bytesV pd ++ junk)), cl bl 91 [V12_], sl 9 1 V12_ (List.length (ws ++ [pd])) (strs (ws ++ [pd]))], rfl, ⟨_, (po + pd.length) % page, _, V12_, [pd], rfl, rfl, ⟨fun h => by subst h; simp_all, fun _ => ⟨rfl, rfl⟩⟩, by rw [List.length_append, bytesV_len]; omega⟩, S67_, H70_⟩
    refine AllR.cons ?_ AllR.nil
    refine A_op (ls' := #[true, true, true, true, false, true, true, true, false, false, true, true, true, true, false, false, false, false]) rfl (by kernel_rfl) (T_val (v := (Value.int .i64 (page : Int))) (x_load1 rfl Try.underlying3 rfl ((Holds.rd H22_ 4 rfl) 2 (Value.int .i64 (page : Int)) rfl)) ?_)
    refine ⟨(Holds.ro_at H22_ 0 rfl), ?_⟩
    refine A_ready (i := 4) (rs := [8]) (by kernel_rfl) ?_
    refine AllR.cons ?_ ?_
    · skip
      refine A_op (ls' := #[true, true, true, true, true, true, true, true, false, false, true, true, true, true, false, false, false, false]) rfl (by kernel_rfl) (T_val (v := (Value.int .i64 (po : Int))) (x_load1 rfl Try.underlying3 rfl ((Holds.rd H22_ 4 rfl) 1 (Value.int .i64 (po : Int)) rfl)) ?_)
      refine ⟨(Holds.ro_at H22_ 0 rfl), ?_⟩
      refine A_ready (i := 8) (rs := []) (by kernel_rfl) ?_
      refine AllR.cons ?_ AllR.nil
      refine A_op (ls' := #[true, true, true, true, true, true, true, true, true, false, true, true, true, true, false, false, false, false]) rfl (by kernel_rfl) (T_val (v := (Value.int .i64 (pd.length : Int))) (x_load1 rfl Try.underlying3 rfl ((Holds.rd H22_ 4 rfl) 3 (Value.int .i64 (pd.length : Int)) rfl)) ?_)
      refine ⟨(Holds.ro_at H22_ 0 rfl), ?_⟩
      refine A_take 9 (ls' := #[true, true, true, true, true, true, true, true, true, true, true, true, true, true, false, false, false, false]) (v := (Value.int .i64 ((po : Int) + (pd.length : Int)))) rfl (by kernel_rfl) (by kernel_rfl) (by kernel_rfl) (by kernel_rfl) (fun _ _ _ h => h) (fun w hS => x_bin rfl rfl (ib_add (IntWalk.i64_in _ (by omega)))) (Holds.ro_at H22_ 0 rfl) ?_
      refine A_take 14 (ls' := #[true, true, true, true, true, true, true, true, true, true, true, true, true, true, true, false, false, false]) (v := (Value.int .i64 (((po + pd.length) % page : Nat) : Int))) rfl (by kernel_rfl) (by kernel_rfl) (by kernel_rfl) (by kernel_rfl) (fun _ _ _ h => h) (fun w hS => x_bin rfl rfl (ib_remN (x := po + pd.length) (y := page) (by omega) (by omega) (by omega) (by omega) rfl)) (Holds.ro_at H22_ 0 rfl) ?_
      refine A_take 15 (ls' := #[true, true, true, true, true, true, true, true, true, true, true, true, true, true, true, true, false, false]) (v := (Value.pointer (some ⟨pw, 0, none⟩))) rfl (by kernel_rfl) (by kernel_rfl) (by kernel_rfl) (by kernel_rfl) (fun _ _ _ h => h) (fun w hS => by kernel_rfl) (Holds.ro_at H22_ 0 rfl) ?_
      refine A_take 16 (ls' := #[true, true, true, true, true, true, true, true, true, true, true, true, true, true, true, true, true, false]) (v := (Value.pointer (some ⟨pw, 1, none⟩))) rfl (by kernel_rfl) (by kernel_rfl) (by kernel_rfl) (by kernel_rfl) (fun _ _ _ h => h) (fun w hS => by kernel_rfl) (Holds.ro_at H22_ 0 rfl) ?_
      refine A_ready (i := 17) (rs := []) (by kernel_rfl) ?_
      refine AllR.cons ?_ AllR.nil
      refine A_op0 (ls' := #[true, true, true, true, true, true, true, true, true, true, true, true, true, true, true, true, true, true]) rfl (by kernel_rfl) (T_store1 (v := (Value.int .i64 (((po + pd.length) % page : Nat) : Int))) rfl rfl z3 rfl H22_ 4 rfl (Nat.le_of_ble_eq_true (by rfl)) ?_)
      intro w71_ S73_ H72_
      replace H72_ : Holds w71_ (ro R :: cl bb 5 (bytesV pd ++ junk) :: cl bl 91 [V12_] :: sl 9 1 V12_ (List.length (ws ++ [pd])) (strs (ws ++ [pd])) :: cl pw 142 [(Value.iface 89 (Value.pointer (some ⟨bl, 0, none⟩))), (Value.int .i64 (((po + pd.length) % page : Nat) : Int)), (Value.int .i64 (page : Int)), (Value.int .i64 (pd.length : Int)), (Value.slice (some ⟨bb, 0, none⟩) (wm + page) (wm + page)), (Value.int .i64 (wm : Int))] :: F) := H72_
      have S74_ := Same.trans (Same.trans S19_ (Same.drew _)) S73_
      refine ⟨(Holds.ro_at H72_ 0 rfl), ?_⟩
      refine A_done (by kernel_rfl) ?_
      refine (X_then (hK20_ _ _ ?_))
      clear hK20_
      refine C_seq (fun K75_ hK75_ => ?_)
      refine C_reg ?_
      refine S_list (T_val (v := (Value.pointer (some ⟨pw, 0, none⟩))) (x_move rfl) ?_)
      refine S_list (T_val (v := (Value.pointer (some ⟨pw, 0, none⟩))) (by kernel_rfl) ?_)
      refine S_list (T_val (v := (Value.pointer (some ⟨pw, 3, none⟩))) (by kernel_rfl) ?_)
      refine S_list0 (T_store1 (v := (Value.int .i64 0)) rfl rfl z3 rfl H72_ 4 rfl (Nat.le_of_ble_eq_true (by rfl)) ?_)
      intro w76_ S78_ H77_
      replace H77_ : Holds w76_ (ro R :: cl bb 5 (bytesV pd ++ junk) :: cl bl 91 [V12_] :: sl 9 1 V12_ (List.length (ws ++ [pd])) (strs (ws ++ [pd])) :: cl pw 142 [(Value.iface 89 (Value.pointer (some ⟨bl, 0, none⟩))), (Value.int .i64 (((po + pd.length) % page : Nat) : Int)), (Value.int .i64 (page : Int)), (Value.int .i64 0), (Value.slice (some ⟨bb, 0, none⟩) (wm + page) (wm + page)), (Value.int .i64 (wm : Int))] :: F) := H77_
      have S79_ := Same.trans S74_ S78_
      refine wpList_nil ?_
      refine (X_then (hK75_ _ _ ?_))
      clear hK75_
      refine C_seq (fun K80_ hK80_ => ?_)
      refine C_reg ?_
      refine S_list (T_val (v := (Value.int .i64 (pd.length : Int))) (x_move rfl) ?_)
      refine S_list (T_val (v := (Value.nilIface)) (x_move rfl) ?_)
      refine S_list (T_val (v := (Value.int .i64 (pd.length : Int))) (x_assign rfl) ?_)
      refine S_list (T_val (v := (Value.nilIface)) (x_assign rfl) ?_)
      refine wpList_nil ?_
      refine (X_then (hK80_ _ _ ?_))
      clear hK80_
      refine C_ret ?_
      refine R_any (v := (Value.tuple #[(Value.int .i64 (pd.length : Int)), (Value.nilIface)])) (run_results2 rfl rfl rfl) ?_
      have H81_ : Holds w76_ (ro R :: cl bb 5 (bytesV [] ++ (bytesV pd ++ junk)) :: cl bl 91 [V12_] :: sl 9 1 V12_ (List.length (ws ++ [pd])) (strs (ws ++ [pd])) :: cl pw 142 [(Value.iface 89 (Value.pointer (some ⟨bl, 0, none⟩))), (Value.int .i64 (((po + pd.length) % page : Nat) : Int)), (Value.int .i64 (page : Int)), (Value.int .i64 0), (Value.slice (some ⟨bb, 0, none⟩) (wm + page) (wm + page)), (Value.int .i64 (wm : Int))] :: F) := cast1 (P := fun (c__ : List Value) => Holds w76_ (ro R :: cl bb 5 c__ :: cl bl 91 [V12_] :: sl 9 1 V12_ (List.length (ws ++ [pd])) (strs (ws ++ [pd])) :: cl pw 142 [(Value.iface 89 (Value.pointer (some ⟨bl, 0, none⟩))), (Value.int .i64 (((po + pd.length) % page : Nat) : Int)), (Value.int .i64 (page : Int)), (Value.int .i64 0), (Value.slice (some ⟨bb, 0, none⟩) (wm + page) (wm + page)), (Value.int .i64 (wm : Int))] :: F)) (rfl : bytesV pd ++ junk = bytesV [] ++ (bytesV pd ++ junk)) H77_
      have H82_ : Holds w76_ (ro R :: cl pw 142 [(Value.iface 89 (Value.pointer (some ⟨bl, 0, none⟩))), (Value.int .i64 (((po + pd.length) % page : Nat) : Int)), (Value.int .i64 (page : Int)), (Value.int .i64 0), (Value.slice (some ⟨bb, 0, none⟩) (wm + page) (wm + page)), (Value.int .i64 (wm : Int))] :: cl bb 5 (bytesV [] ++ (bytesV pd ++ junk)) :: cl bl 91 [V12_] :: sl 9 1 V12_ (List.length (ws ++ [pd])) (strs (ws ++ [pd])) :: F) := (Holds.bring (Holds.bring (Holds.bring (Holds.bring (Holds.bring H81_ 3 rfl) 3 rfl) 3 rfl) 4 rfl) 4 rfl)
      exact ⟨_, [cl pw 142 [(Value.iface 89 (Value.pointer (some ⟨bl, 0, none⟩))), (Value.int .i64 (((po + pd.length) % page : Nat) : Int)), (Value.int .i64 (page : Int)), (Value.int .i64 0), (Value.slice (some ⟨bb, 0, none⟩) (wm + page) (wm + page)), (Value.int .i64 (wm : Int))], cl bb 5 (bytesV [] ++ (bytesV pd ++ junk)), cl bl 91 [V12_], sl 9 1 V12_ (List.length (ws ++ [pd])) (strs (ws ++ [pd]))], rfl, ⟨_, (po + pd.length) % page, _, V12_, [pd], rfl, rfl, ⟨fun h => by subst h; simp_all, fun _ => ⟨rfl, rfl⟩⟩, by rw [List.length_append, bytesV_len]; omega⟩, S79_, H82_⟩
    refine AllR.cons ?_ AllR.nil
    refine A_op (ls' := #[true, true, true, true, false, true, true, true, true, false, true, true, true, true, false, false, false, false]) rfl (by kernel_rfl) (T_val (v := (Value.int .i64 (pd.length : Int))) (x_load1 rfl Try.underlying3 rfl ((Holds.rd H22_ 4 rfl) 3 (Value.int .i64 (pd.length : Int)) rfl)) ?_)
    refine ⟨(Holds.ro_at H22_ 0 rfl), ?_⟩
    refine A_ready (i := 4) (rs := []) (by kernel_rfl) ?_
    refine AllR.cons ?_ AllR.nil
    refine A_op (ls' := #[true, true, true, true, true, true, true, true, true, false, true, true, true, true, false, false, false, false]) rfl (by kernel_rfl) (T_val (v := (Value.int .i64 (po : Int))) (x_load1 rfl Try.underlying3 rfl ((Holds.rd H22_ 4 rfl) 1 (Value.int .i64 (po : Int)) rfl)) ?_)
    refine ⟨(Holds.ro_at H22_ 0 rfl), ?_⟩
    refine A_take 9 (ls' := #[true, true, true, true, true, true, true, true, true, true, true, true, true, true, false, false, false, false]) (v := (Value.int .i64 ((po : Int) + (pd.length : Int)))) rfl (by kernel_rfl) (by kernel_rfl) (by kernel_rfl) (by kernel_rfl) (fun _ _ _ h => h) (fun w hS => x_bin rfl rfl (ib_add (IntWalk.i64_in _ (by omega)))) (Holds.ro_at H22_ 0 rfl) ?_
    refine A_take 14 (ls' := #[true, true, true, true, true, true, true, true, true, true, true, true, true, true, true, false, false, false]) (v := (Value.int .i64 (((po + pd.length) % page : Nat) : Int))) rfl (by kernel_rfl) (by kernel_rfl) (by kernel_rfl) (by kernel_rfl) (fun _ _ _ h => h) (fun w hS => x_bin rfl rfl (ib_remN (x := po + pd.length) (y := page) (by omega) (by omega) (by omega) (by omega) rfl)) (Holds.ro_at H22_ 0 rfl) ?_
    refine A_take 15 (ls' := #[true, true, true, true, true, true, true, true, true, true, true, true, true, true, true, true, false, false]) (v := (Value.pointer (some ⟨pw, 0, none⟩))) rfl (by kernel_rfl) (by kernel_rfl) (by kernel_rfl) (by kernel_rfl) (fun _ _ _ h => h) (fun w hS => by kernel_rfl) (Holds.ro_at H22_ 0 rfl) ?_
    refine A_take 16 (ls' := #[true, true, true, true, true, true, true, true, true, true, true, true, true, true, true, true, true, false]) (v := (Value.pointer (some ⟨pw, 1, none⟩))) rfl (by kernel_rfl) (by kernel_rfl) (by kernel_rfl) (by kernel_rfl) (fun _ _ _ h => h) (fun w hS => by kernel_rfl) (Holds.ro_at H22_ 0 rfl) ?_
    refine A_ready (i := 17) (rs := []) (by kernel_rfl) ?_
    refine AllR.cons ?_ AllR.nil
    refine A_op0 (ls' := #[true, true, true, true, true, true, true, true, true, true, true, true, true, true, true, true, true, true]) rfl (by kernel_rfl) (T_store1 (v := (Value.int .i64 (((po + pd.length) % page : Nat) : Int))) rfl rfl z3 rfl H22_ 4 rfl (Nat.le_of_ble_eq_true (by rfl)) ?_)
    intro w83_ S85_ H84_
    replace H84_ : Holds w83_ (ro R :: cl bb 5 (bytesV pd ++ junk) :: cl bl 91 [V12_] :: sl 9 1 V12_ (List.length (ws ++ [pd])) (strs (ws ++ [pd])) :: cl pw 142 [(Value.iface 89 (Value.pointer (some ⟨bl, 0, none⟩))), (Value.int .i64 (((po + pd.length) % page : Nat) : Int)), (Value.int .i64 (page : Int)), (Value.int .i64 (pd.length : Int)), (Value.slice (some ⟨bb, 0, none⟩) (wm + page) (wm + page)), (Value.int .i64 (wm : Int))] :: F) := H84_
    have S86_ := Same.trans (Same.trans S19_ (Same.drew _)) S85_
    refine ⟨(Holds.ro_at H84_ 0 rfl), ?_⟩
    refine A_done (by kernel_rfl) ?_
    refine (X_then (hK20_ _ _ ?_))
    clear hK20_
    refine C_seq (fun K87_ hK87_ => ?_)
    refine C_reg ?_
    refine S_list (T_val (v := (Value.pointer (some ⟨pw, 0, none⟩))) (x_move rfl) ?_)
    refine S_list (T_val (v := (Value.pointer (some ⟨pw, 0, none⟩))) (by kernel_rfl) ?_)
    refine S_list (T_val (v := (Value.pointer (some ⟨pw, 3, none⟩))) (by kernel_rfl) ?_)
    refine S_list0 (T_store1 (v := (Value.int .i64 0)) rfl rfl z3 rfl H84_ 4 rfl (Nat.le_of_ble_eq_true (by rfl)) ?_)
    intro w88_ S90_ H89_
    replace H89_ : Holds w88_ (ro R :: cl bb 5 (bytesV pd ++ junk) :: cl bl 91 [V12_] :: sl 9 1 V12_ (List.length (ws ++ [pd])) (strs (ws ++ [pd])) :: cl pw 142 [(Value.iface 89 (Value.pointer (some ⟨bl, 0, none⟩))), (Value.int .i64 (((po + pd.length) % page : Nat) : Int)), (Value.int .i64 (page : Int)), (Value.int .i64 0), (Value.slice (some ⟨bb, 0, none⟩) (wm + page) (wm + page)), (Value.int .i64 (wm : Int))] :: F) := H89_
    have S91_ := Same.trans S86_ S90_
    refine wpList_nil ?_
    refine (X_then (hK87_ _ _ ?_))
    clear hK87_
    refine C_seq (fun K92_ hK92_ => ?_)
    refine C_reg ?_
    refine S_list (T_val (v := (Value.int .i64 (pd.length : Int))) (x_move rfl) ?_)
    refine S_list (T_val (v := (Value.nilIface)) (x_move rfl) ?_)
    refine S_list (T_val (v := (Value.int .i64 (pd.length : Int))) (x_assign rfl) ?_)
    refine S_list (T_val (v := (Value.nilIface)) (x_assign rfl) ?_)
    refine wpList_nil ?_
    refine (X_then (hK92_ _ _ ?_))
    clear hK92_
    refine C_ret ?_
    refine R_any (v := (Value.tuple #[(Value.int .i64 (pd.length : Int)), (Value.nilIface)])) (run_results2 rfl rfl rfl) ?_
    have H93_ : Holds w88_ (ro R :: cl bb 5 (bytesV [] ++ (bytesV pd ++ junk)) :: cl bl 91 [V12_] :: sl 9 1 V12_ (List.length (ws ++ [pd])) (strs (ws ++ [pd])) :: cl pw 142 [(Value.iface 89 (Value.pointer (some ⟨bl, 0, none⟩))), (Value.int .i64 (((po + pd.length) % page : Nat) : Int)), (Value.int .i64 (page : Int)), (Value.int .i64 0), (Value.slice (some ⟨bb, 0, none⟩) (wm + page) (wm + page)), (Value.int .i64 (wm : Int))] :: F) := cast1 (P := fun (c__ : List Value) => Holds w88_ (ro R :: cl bb 5 c__ :: cl bl 91 [V12_] :: sl 9 1 V12_ (List.length (ws ++ [pd])) (strs (ws ++ [pd])) :: cl pw 142 [(Value.iface 89 (Value.pointer (some ⟨bl, 0, none⟩))), (Value.int .i64 (((po + pd.length) % page : Nat) : Int)), (Value.int .i64 (page : Int)), (Value.int .i64 0), (Value.slice (some ⟨bb, 0, none⟩) (wm + page) (wm + page)), (Value.int .i64 (wm : Int))] :: F)) (rfl : bytesV pd ++ junk = bytesV [] ++ (bytesV pd ++ junk)) H89_
    have H94_ : Holds w88_ (ro R :: cl pw 142 [(Value.iface 89 (Value.pointer (some ⟨bl, 0, none⟩))), (Value.int .i64 (((po + pd.length) % page : Nat) : Int)), (Value.int .i64 (page : Int)), (Value.int .i64 0), (Value.slice (some ⟨bb, 0, none⟩) (wm + page) (wm + page)), (Value.int .i64 (wm : Int))] :: cl bb 5 (bytesV [] ++ (bytesV pd ++ junk)) :: cl bl 91 [V12_] :: sl 9 1 V12_ (List.length (ws ++ [pd])) (strs (ws ++ [pd])) :: F) := (Holds.bring (Holds.bring (Holds.bring (Holds.bring (Holds.bring H93_ 3 rfl) 3 rfl) 3 rfl) 4 rfl) 4 rfl)
    exact ⟨_, [cl pw 142 [(Value.iface 89 (Value.pointer (some ⟨bl, 0, none⟩))), (Value.int .i64 (((po + pd.length) % page : Nat) : Int)), (Value.int .i64 (page : Int)), (Value.int .i64 0), (Value.slice (some ⟨bb, 0, none⟩) (wm + page) (wm + page)), (Value.int .i64 (wm : Int))], cl bb 5 (bytesV [] ++ (bytesV pd ++ junk)), cl bl 91 [V12_], sl 9 1 V12_ (List.length (ws ++ [pd])) (strs (ws ++ [pd]))], rfl, ⟨_, (po + pd.length) % page, _, V12_, [pd], rfl, rfl, ⟨fun h => by subst h; simp_all, fun _ => ⟨rfl, rfl⟩⟩, by rw [List.length_append, bytesV_len]; omega⟩, S91_, H94_⟩
end Go.Proofs.Ytfdnfnjmphjdnaa
