/- What numbers in pieces of seven bits come to. -/
import Derived.Test.YtgeggiebefonhaaWaD
import Derived.Test.YtgeggiebefonhaaTy
set_option linter.unusedVariables false
set_option linter.unusedSimpArgs false
namespace Go.Proofs.Ytgeggiebefonhaa
open Go Go.RowKit Gw

set_option maxHeartbeats 400000 in
theorem wVint (R : HP) (v : Value) (ns : List Int) (n : Nat) (q0 : n < 18446744073709551616) (q1 : ns.length ≤ 100000000) :
    Tri Try.prog 155 #[v, (Value.int .u64 (n : Int))] R [sl 5 1 v (List.length ns) (bytesV ns)] (fun v__ post__ => ∃ (v' : Value), v__ = v' ∧ post__ = [sl 5 1 v' (List.length (ns ++ vint n)) (bytesV (ns ++ vint n))]) := by
  refine Tri.into (n := 20) (al := [v, (Value.int .u64 (n : Int))]) Try.func155 rfl Try.ntmps155 rfl rfl fun w F H => ?_
  replace H : Holds w (ro R :: sl 5 1 v (List.length ns) (bytesV ns) :: F) := H
  refine C_seq (fun K1_ hK1_ => ?_)
  refine C_reg ?_
  refine S_list (T_val (v := (Value.slice none 0 0)) (x_assign rfl) ?_)
  refine wpList_nil ?_
  refine (X_then (hK1_ _ _ ?_))
  clear hK1_
  refine C_seq (fun K2_ hK2_ => ?_)
  refine C_block ?_
  refine C_loop (γ := Value × (List Int) × Nat) (fun x__ a__ w1__ => match x__ with | ⟨v1, ns1, n1⟩ => ∃ h : Env, a__ = mkA 20 (upd (upd (upd h 0 v1) 1 (Value.int .u64 (n1 : Int))) 4 (Value.slice none 0 0)) [] ∧ Holds w1__ (ro R :: sl 5 1 v1 (List.length ns1) (bytesV ns1) :: F) ∧ Same w w1__ ∧ (ns1 ++ vint n1 = ns ++ vint n) ∧ (n1 ≤ n)) (fun x__ => match x__ with | ⟨v1, ns1, n1⟩ => n1) (⟨v, ns, n⟩) ⟨_, congrArg (fun e => mkA 20 e []) (ch (ch (ch rfl rfl) rfl) rfl), H, (Same.refl w), (rfl), (by first | assumption | omega | exact rfl)⟩ ?_
  rintro ⟨v1, ns1, n1⟩ _ w3_ ⟨h, rfl, H4_, S5_, hinv, hn1⟩
  have hl_ := congrArg List.length hinv
  simp only [List.length_append] at hl_
  have hvl_ := vint_len10 (n := n) (by omega)
  refine C_seq (fun K6_ hK6_ => ?_)
  refine C_seq (fun K7_ hK7_ => ?_)
  refine C_reg ?_
  refine S_list (T_val (v := (Value.int .u64 (n1 : Int))) (x_move rfl) ?_)
  refine S_list (T_val (v := (Value.bool (decide (128 ≤ (n1 : Int))))) (x_bin rfl rfl rfl) ?_)
  refine wpList_nil ?_
  refine (X_then (hK7_ _ _ ?_))
  clear hK7_
  refine C_cond (b := decide (128 ≤ (n1 : Int))) rfl (fun c8_t => ?_) (fun c8_f => ?_)
  · have c8_tp : 128 ≤ (n1 : Int) := of_decide_eq_true c8_t
    refine C_skip (X_then (hK6_ _ _ ?_))
    clear hK6_
    refine C_block ?_
    refine C_seq (fun K9_ hK9_ => ?_)
    refine C_reg ?_
    refine S_list (T_val (v := v1) (x_move rfl) ?_)
    refine S_list (T_val (v := (Value.int .u64 (n1 : Int))) (x_move rfl) ?_)
    refine S_list (T_val (v := (Value.int .u8 (IntKind.u8.wrap (n1 : Int)))) (x_convI rfl Try.underlying171 Try.underlying5 rfl) ?_)
    refine S_list (T_val (v := (Value.int .u8 (ior .u8 (IntKind.u8.wrap (n1 : Int)) 128))) (x_bin rfl rfl rfl) ?_)
    refine S_list (T_new (obj := .cells #[(Value.int .u8 (ior .u8 (IntKind.u8.wrap (n1 : Int)) 128))] 5) (f := fun b__ => .slice (some ⟨b__, 0, none⟩) 1 1) (A := fun b__ => cl b__ 5 [(Value.int .u8 (ior .u8 (IntKind.u8.wrap (n1 : Int)) 128))]) (by kernel_rfl) (fun l h => h.alloc _ _) H4_ ?_)
    intro b10_ w11_ S13_ H12_
    replace H12_ : Holds w11_ (cl b10_ 5 [(Value.int .u8 (ior .u8 (IntKind.u8.wrap (n1 : Int)) 128))] :: ro R :: sl 5 1 v1 (List.length ns1) (bytesV ns1) :: F) := H12_
    have S14_ := Same.trans S5_ S13_
    refine S_list (T_append rfl rfl Try.underlying43 z5 rfl (by decide) H12_ 2 rfl (Holds.cl_src H12_ 0 rfl Try.underlying43 (by simp [Value.oneCell']) rfl) (by first | omega | (simp only [List.length_append, List.length_cons, List.length_nil]; omega)) ?_)
    intro v15_ w16_ S18_ H17_
    replace H17_ : Holds w16_ (cl b10_ 5 [(Value.int .u8 (ior .u8 (IntKind.u8.wrap (n1 : Int)) 128))] :: ro R :: sl 5 1 v15_ ((List.length ns1) + 1) ((bytesV ns1) ++ [(Value.int .u8 (ior .u8 (IntKind.u8.wrap (n1 : Int)) 128))]) :: F) := H17_
    have S19_ := Same.trans S14_ S18_
    have H20_ : Holds w16_ (cl b10_ 5 [(Value.int .u8 (ior .u8 (IntKind.u8.wrap (n1 : Int)) 128))] :: ro R :: sl 5 1 v15_ (List.length (ns1 ++ [(ior .u8 (IntKind.u8.wrap (n1 : Int)) 128)])) (bytesV (ns1 ++ [(ior .u8 (IntKind.u8.wrap (n1 : Int)) 128)])) :: F) := cast2 (P := fun (c__ : List Value) (k__ : Nat) => Holds w16_ (cl b10_ 5 [(Value.int .u8 (ior .u8 (IntKind.u8.wrap (n1 : Int)) 128))] :: ro R :: sl 5 1 v15_ k__ c__ :: F)) (by simp [bytesV] : (bytesV ns1) ++ [(Value.int .u8 (ior .u8 (IntKind.u8.wrap (n1 : Int)) 128))] = bytesV (ns1 ++ [(ior .u8 (IntKind.u8.wrap (n1 : Int)) 128)])) (by first | (simp; done) | (simp; omega) | (have := RS.blen trivial; simp; omega) : (List.length ns1) + 1 = (List.length (ns1 ++ [(ior .u8 (IntKind.u8.wrap (n1 : Int)) 128)]))) H17_
    refine S_list (T_val (v := v15_) (x_assign rfl) ?_)
    refine wpList_nil ?_
    refine (X_then (hK9_ _ _ ?_))
    clear hK9_
    refine C_reg ?_
    refine S_list (T_val (v := (Value.int .u64 (n1 : Int))) (x_move rfl) ?_)
    refine S_list (T_val (v := (Value.int .u64 ((n1 : Int) / 128))) (x_shr rfl rfl (by omega) (shrN (by decide) (by decide))) ?_)
    refine S_list (T_val (v := (Value.int .u64 ((n1 : Int) / 128))) (x_assign rfl) ?_)
    refine wpList_nil ?_
    refine (X_blkN (X_then ?_))
    have H21_ : Holds w16_ (cl b10_ 5 [(Value.int .u8 (ior .u8 (IntKind.u8.wrap (n1 : Int)) 128))] :: ro R :: sl 5 1 v15_ (List.length (ns1 ++ [ior .u8 (IntKind.u8.wrap (n1 : Int)) 128])) (bytesV (ns1 ++ [ior .u8 (IntKind.u8.wrap (n1 : Int)) 128])) :: F) := cast2 (P := fun (c__ : List Value) (k__ : Nat) => Holds w16_ (cl b10_ 5 [(Value.int .u8 (ior .u8 (IntKind.u8.wrap (n1 : Int)) 128))] :: ro R :: sl 5 1 v15_ k__ c__ :: F)) ((by first | rfl | omega | (simp; done) | (simp; omega)) : bytesV (ns1 ++ [(ior .u8 (IntKind.u8.wrap (n1 : Int)) 128)]) = bytesV (ns1 ++ [ior .u8 (IntKind.u8.wrap (n1 : Int)) 128])) ((by first | rfl | omega | (simp; done) | (simp; omega)) : (List.length (ns1 ++ [(ior .u8 (IntKind.u8.wrap (n1 : Int)) 128)])) = (List.length (ns1 ++ [ior .u8 (IntKind.u8.wrap (n1 : Int)) 128]))) H20_
    have H22_ : Holds w16_ (ro R :: sl 5 1 v15_ (List.length (ns1 ++ [ior .u8 (IntKind.u8.wrap (n1 : Int)) 128])) (bytesV (ns1 ++ [ior .u8 (IntKind.u8.wrap (n1 : Int)) 128])) :: F) := (Holds.erase (Holds.bring (Holds.bring H21_ 2 rfl) 2 rfl) 2)
    exact ⟨⟨v15_, ns1 ++ [ior .u8 (IntKind.u8.wrap (n1 : Int)) 128], n1 / 128⟩, ⟨_, congrArg (fun e => mkA 20 e []) (ch (ch (ch rfl rfl) (congrArg (Value.int .u64) ((by omega) : (n1 : Int) / 128 = ((n1 / 128 : Nat) : Int)))) rfl), H22_, S19_, (by rw [← hinv, vint_ge (by omega : ¬ n1 < 128)]; simp), (Nat.le_trans (Nat.div_le_self _ _) hn1)⟩, by first | omega | (dsimp only; omega) | (simp; omega)⟩
  · have c8_fp : ¬ (128 ≤ (n1 : Int)) := of_decide_eq_false c8_f
    refine C_exit (X_thenX (X_thenX (X_blkHit ?_)))
    refine (X_then (hK2_ _ _ ?_))
    clear hK2_
    refine C_seq (fun K23_ hK23_ => ?_)
    refine C_reg ?_
    refine S_list (T_val (v := v1) (x_move rfl) ?_)
    refine S_list (T_val (v := (Value.int .u64 (n1 : Int))) (x_move rfl) ?_)
    refine S_list (T_val (v := (Value.int .u8 (IntKind.u8.wrap (n1 : Int)))) (x_convI rfl Try.underlying171 Try.underlying5 rfl) ?_)
    refine S_list (T_new (obj := .cells #[(Value.int .u8 (IntKind.u8.wrap (n1 : Int)))] 5) (f := fun b__ => .slice (some ⟨b__, 0, none⟩) 1 1) (A := fun b__ => cl b__ 5 [(Value.int .u8 (IntKind.u8.wrap (n1 : Int)))]) (by kernel_rfl) (fun l h => h.alloc _ _) H4_ ?_)
    intro b24_ w25_ S27_ H26_
    replace H26_ : Holds w25_ (cl b24_ 5 [(Value.int .u8 (IntKind.u8.wrap (n1 : Int)))] :: ro R :: sl 5 1 v1 (List.length ns1) (bytesV ns1) :: F) := H26_
    have S28_ := Same.trans S5_ S27_
    refine S_list (T_append rfl rfl Try.underlying43 z5 rfl (by decide) H26_ 2 rfl (Holds.cl_src H26_ 0 rfl Try.underlying43 (by simp [Value.oneCell']) rfl) (by first | omega | (simp only [List.length_append, List.length_cons, List.length_nil]; omega)) ?_)
    intro v29_ w30_ S32_ H31_
    replace H31_ : Holds w30_ (cl b24_ 5 [(Value.int .u8 (IntKind.u8.wrap (n1 : Int)))] :: ro R :: sl 5 1 v29_ ((List.length ns1) + 1) ((bytesV ns1) ++ [(Value.int .u8 (IntKind.u8.wrap (n1 : Int)))]) :: F) := H31_
    have S33_ := Same.trans S28_ S32_
    have H34_ : Holds w30_ (cl b24_ 5 [(Value.int .u8 (IntKind.u8.wrap (n1 : Int)))] :: ro R :: sl 5 1 v29_ (List.length (ns1 ++ [(IntKind.u8.wrap (n1 : Int))])) (bytesV (ns1 ++ [(IntKind.u8.wrap (n1 : Int))])) :: F) := cast2 (P := fun (c__ : List Value) (k__ : Nat) => Holds w30_ (cl b24_ 5 [(Value.int .u8 (IntKind.u8.wrap (n1 : Int)))] :: ro R :: sl 5 1 v29_ k__ c__ :: F)) (by simp [bytesV] : (bytesV ns1) ++ [(Value.int .u8 (IntKind.u8.wrap (n1 : Int)))] = bytesV (ns1 ++ [(IntKind.u8.wrap (n1 : Int))])) (by first | (simp; done) | (simp; omega) | (have := RS.blen trivial; simp; omega) : (List.length ns1) + 1 = (List.length (ns1 ++ [(IntKind.u8.wrap (n1 : Int))]))) H31_
    refine S_list (T_val (v := v29_) (x_assign rfl) ?_)
    refine wpList_nil ?_
    refine (X_then (hK23_ _ _ ?_))
    clear hK23_
    refine C_ret ?_
    refine R_any (v := v29_) (run_results1 rfl rfl) ?_
    have H35_ : Holds w30_ (cl b24_ 5 [(Value.int .u8 (IntKind.u8.wrap (n1 : Int)))] :: ro R :: sl 5 1 v29_ (List.length (ns ++ vint n)) (bytesV (ns ++ vint n)) :: F) := cast2 (P := fun (c__ : List Value) (k__ : Nat) => Holds w30_ (cl b24_ 5 [(Value.int .u8 (IntKind.u8.wrap (n1 : Int)))] :: ro R :: sl 5 1 v29_ k__ c__ :: F)) (by rw [← hinv, vint_lt (by omega : n1 < 128)] : bytesV (ns1 ++ [(IntKind.u8.wrap (n1 : Int))]) = bytesV (ns ++ vint n)) (by rw [← hinv, vint_lt (by omega : n1 < 128)] : (List.length (ns1 ++ [(IntKind.u8.wrap (n1 : Int))])) = (List.length (ns ++ vint n))) H34_
    have H36_ : Holds w30_ (ro R :: sl 5 1 v29_ (List.length (ns ++ vint n)) (bytesV (ns ++ vint n)) :: F) := (Holds.erase (Holds.bring (Holds.bring H35_ 2 rfl) 2 rfl) 2)
    exact ⟨_, [sl 5 1 v29_ (List.length (ns ++ vint n)) (bytesV (ns ++ vint n))], rfl, ⟨v29_, rfl, rfl⟩, S33_, H36_⟩

set_option maxHeartbeats 400000 in
theorem sVint (R : HP) (n : Nat) (q0 : n < 18446744073709551616) :
    Tri Try.prog 77 #[(Value.int .u64 (n : Int))] R [] (fun v__ post__ => v__ = (Value.string (strN (vint n))) ∧ post__ = []) := by
  refine Tri.into (n := 20) (al := [(Value.int .u64 (n : Int))]) Try.func77 rfl Try.ntmps77 rfl rfl fun w F H => ?_
  replace H : Holds w (ro R :: F) := H
  refine C_seq (fun K1_ hK1_ => ?_)
  refine C_reg ?_
  refine S_list (T_val (v := (Value.string (ByteArray.mk #[]))) (x_assign rfl) ?_)
  refine wpList_nil ?_
  refine (X_then (hK1_ _ _ ?_))
  clear hK1_
  refine C_seq (fun K2_ hK2_ => ?_)
  refine C_reg ?_
  refine S_list (T_val (v := (Value.slice none 0 0)) (x_assign rfl) ?_)
  refine wpList_nil ?_
  refine (X_then (hK2_ _ _ ?_))
  clear hK2_
  refine C_seq (fun K3_ hK3_ => ?_)
  refine C_block ?_
  have H4_ : Holds w (sl 5 1 (Value.slice none 0 0) (List.length ([] : List Int)) (bytesV ([] : List Int)) :: ro R :: F) := Holds.add_nil H 5 1
  refine C_loop (γ := Value × (List Int) × Nat) (fun x__ a__ w1__ => match x__ with | ⟨v1, ns1, n1⟩ => ∃ h : Env, a__ = mkA 20 (upd (upd (upd h 0 (Value.int .u64 (n1 : Int))) 2 (Value.string (ByteArray.mk #[]))) 3 v1) [] ∧ Holds w1__ (sl 5 1 v1 (List.length ns1) (bytesV ns1) :: ro R :: F) ∧ Same w w1__ ∧ (ns1 ++ vint n1 = vint n) ∧ (n1 ≤ n)) (fun x__ => match x__ with | ⟨v1, ns1, n1⟩ => n1) (⟨(Value.slice none 0 0), ([] : List Int), n⟩) ⟨_, congrArg (fun e => mkA 20 e []) (ch (ch (ch rfl rfl) rfl) (rfl : (Value.slice none 0 0) = ((Value.slice none 0 0)))), H4_, (Same.refl w), (rfl), (by first | assumption | omega | exact rfl)⟩ ?_
  rintro ⟨v1, ns1, n1⟩ _ w5_ ⟨h, rfl, H6_, S7_, hinv, hn1⟩
  have hl_ := congrArg List.length hinv
  simp only [List.length_append] at hl_
  have hvl_ := vint_len10 (n := n) (by omega)
  refine C_seq (fun K8_ hK8_ => ?_)
  refine C_seq (fun K9_ hK9_ => ?_)
  refine C_reg ?_
  refine S_list (T_val (v := (Value.int .u64 (n1 : Int))) (x_move rfl) ?_)
  refine S_list (T_val (v := (Value.bool (decide (128 ≤ (n1 : Int))))) (x_bin rfl rfl rfl) ?_)
  refine wpList_nil ?_
  refine (X_then (hK9_ _ _ ?_))
  clear hK9_
  refine C_cond (b := decide (128 ≤ (n1 : Int))) rfl (fun c10_t => ?_) (fun c10_f => ?_)
  · have c10_tp : 128 ≤ (n1 : Int) := of_decide_eq_true c10_t
    refine C_skip (X_then (hK8_ _ _ ?_))
    clear hK8_
    refine C_block ?_
    refine C_seq (fun K11_ hK11_ => ?_)
    refine C_reg ?_
    refine S_list (T_val (v := v1) (x_move rfl) ?_)
    refine S_list (T_val (v := (Value.int .u64 (n1 : Int))) (x_move rfl) ?_)
    refine S_list (T_val (v := (Value.int .u8 (IntKind.u8.wrap (n1 : Int)))) (x_convI rfl Try.underlying171 Try.underlying5 rfl) ?_)
    refine S_list (T_val (v := (Value.int .u8 (ior .u8 (IntKind.u8.wrap (n1 : Int)) 128))) (x_bin rfl rfl rfl) ?_)
    refine S_list (T_new (obj := .cells #[(Value.int .u8 (ior .u8 (IntKind.u8.wrap (n1 : Int)) 128))] 5) (f := fun b__ => .slice (some ⟨b__, 0, none⟩) 1 1) (A := fun b__ => cl b__ 5 [(Value.int .u8 (ior .u8 (IntKind.u8.wrap (n1 : Int)) 128))]) (by kernel_rfl) (fun l h => h.alloc _ _) H6_ ?_)
    intro b12_ w13_ S15_ H14_
    replace H14_ : Holds w13_ (cl b12_ 5 [(Value.int .u8 (ior .u8 (IntKind.u8.wrap (n1 : Int)) 128))] :: sl 5 1 v1 (List.length ns1) (bytesV ns1) :: ro R :: F) := H14_
    have S16_ := Same.trans S7_ S15_
    refine S_list (T_append rfl rfl Try.underlying43 z5 rfl (by decide) H14_ 1 rfl (Holds.cl_src H14_ 0 rfl Try.underlying43 (by simp [Value.oneCell']) rfl) (by first | omega | (simp only [List.length_append, List.length_cons, List.length_nil]; omega)) ?_)
    intro v17_ w18_ S20_ H19_
    replace H19_ : Holds w18_ (cl b12_ 5 [(Value.int .u8 (ior .u8 (IntKind.u8.wrap (n1 : Int)) 128))] :: sl 5 1 v17_ ((List.length ns1) + 1) ((bytesV ns1) ++ [(Value.int .u8 (ior .u8 (IntKind.u8.wrap (n1 : Int)) 128))]) :: ro R :: F) := H19_
    have S21_ := Same.trans S16_ S20_
    have H22_ : Holds w18_ (cl b12_ 5 [(Value.int .u8 (ior .u8 (IntKind.u8.wrap (n1 : Int)) 128))] :: sl 5 1 v17_ (List.length (ns1 ++ [(ior .u8 (IntKind.u8.wrap (n1 : Int)) 128)])) (bytesV (ns1 ++ [(ior .u8 (IntKind.u8.wrap (n1 : Int)) 128)])) :: ro R :: F) := cast2 (P := fun (c__ : List Value) (k__ : Nat) => Holds w18_ (cl b12_ 5 [(Value.int .u8 (ior .u8 (IntKind.u8.wrap (n1 : Int)) 128))] :: sl 5 1 v17_ k__ c__ :: ro R :: F)) (by simp [bytesV] : (bytesV ns1) ++ [(Value.int .u8 (ior .u8 (IntKind.u8.wrap (n1 : Int)) 128))] = bytesV (ns1 ++ [(ior .u8 (IntKind.u8.wrap (n1 : Int)) 128)])) (by first | (simp; done) | (simp; omega) | (have := RS.blen trivial; simp; omega) : (List.length ns1) + 1 = (List.length (ns1 ++ [(ior .u8 (IntKind.u8.wrap (n1 : Int)) 128)]))) H19_
    refine S_list (T_val (v := v17_) (x_assign rfl) ?_)
    refine wpList_nil ?_
    refine (X_then (hK11_ _ _ ?_))
    clear hK11_
    refine C_reg ?_
    refine S_list (T_val (v := (Value.int .u64 (n1 : Int))) (x_move rfl) ?_)
    refine S_list (T_val (v := (Value.int .u64 ((n1 : Int) / 128))) (x_shr rfl rfl (by omega) (shrN (by decide) (by decide))) ?_)
    refine S_list (T_val (v := (Value.int .u64 ((n1 : Int) / 128))) (x_assign rfl) ?_)
    refine wpList_nil ?_
    refine (X_blkN (X_then ?_))
    have H23_ : Holds w18_ (cl b12_ 5 [(Value.int .u8 (ior .u8 (IntKind.u8.wrap (n1 : Int)) 128))] :: sl 5 1 v17_ (List.length (ns1 ++ [ior .u8 (IntKind.u8.wrap (n1 : Int)) 128])) (bytesV (ns1 ++ [ior .u8 (IntKind.u8.wrap (n1 : Int)) 128])) :: ro R :: F) := cast2 (P := fun (c__ : List Value) (k__ : Nat) => Holds w18_ (cl b12_ 5 [(Value.int .u8 (ior .u8 (IntKind.u8.wrap (n1 : Int)) 128))] :: sl 5 1 v17_ k__ c__ :: ro R :: F)) ((by first | rfl | omega | (simp; done) | (simp; omega)) : bytesV (ns1 ++ [(ior .u8 (IntKind.u8.wrap (n1 : Int)) 128)]) = bytesV (ns1 ++ [ior .u8 (IntKind.u8.wrap (n1 : Int)) 128])) ((by first | rfl | omega | (simp; done) | (simp; omega)) : (List.length (ns1 ++ [(ior .u8 (IntKind.u8.wrap (n1 : Int)) 128)])) = (List.length (ns1 ++ [ior .u8 (IntKind.u8.wrap (n1 : Int)) 128]))) H22_
    have H24_ : Holds w18_ (sl 5 1 v17_ (List.length (ns1 ++ [ior .u8 (IntKind.u8.wrap (n1 : Int)) 128])) (bytesV (ns1 ++ [ior .u8 (IntKind.u8.wrap (n1 : Int)) 128])) :: ro R :: F) := (Holds.erase (Holds.bring (Holds.bring H23_ 2 rfl) 2 rfl) 2)
    exact ⟨⟨v17_, ns1 ++ [ior .u8 (IntKind.u8.wrap (n1 : Int)) 128], n1 / 128⟩, ⟨_, congrArg (fun e => mkA 20 e []) (ch (ch (ch rfl (congrArg (Value.int .u64) ((by omega) : (n1 : Int) / 128 = ((n1 / 128 : Nat) : Int)))) rfl) rfl), H24_, S21_, (by rw [← hinv, vint_ge (by omega : ¬ n1 < 128)]; simp), (Nat.le_trans (Nat.div_le_self _ _) hn1)⟩, by first | omega | (dsimp only; omega) | (simp; omega)⟩
  · have c10_fp : ¬ (128 ≤ (n1 : Int)) := of_decide_eq_false c10_f
    refine C_exit (X_thenX (X_thenX (X_blkHit ?_)))
    refine (X_then (hK3_ _ _ ?_))
    clear hK3_
    refine C_seq (fun K25_ hK25_ => ?_)
    refine C_reg ?_
    refine S_list (T_val (v := v1) (x_move rfl) ?_)
    refine S_list (T_val (v := (Value.int .u64 (n1 : Int))) (x_move rfl) ?_)
    refine S_list (T_val (v := (Value.int .u8 (IntKind.u8.wrap (n1 : Int)))) (x_convI rfl Try.underlying171 Try.underlying5 rfl) ?_)
    refine S_list (T_new (obj := .cells #[(Value.int .u8 (IntKind.u8.wrap (n1 : Int)))] 5) (f := fun b__ => .slice (some ⟨b__, 0, none⟩) 1 1) (A := fun b__ => cl b__ 5 [(Value.int .u8 (IntKind.u8.wrap (n1 : Int)))]) (by kernel_rfl) (fun l h => h.alloc _ _) H6_ ?_)
    intro b26_ w27_ S29_ H28_
    replace H28_ : Holds w27_ (cl b26_ 5 [(Value.int .u8 (IntKind.u8.wrap (n1 : Int)))] :: sl 5 1 v1 (List.length ns1) (bytesV ns1) :: ro R :: F) := H28_
    have S30_ := Same.trans S7_ S29_
    refine S_list (T_append rfl rfl Try.underlying43 z5 rfl (by decide) H28_ 1 rfl (Holds.cl_src H28_ 0 rfl Try.underlying43 (by simp [Value.oneCell']) rfl) (by first | omega | (simp only [List.length_append, List.length_cons, List.length_nil]; omega)) ?_)
    intro v31_ w32_ S34_ H33_
    replace H33_ : Holds w32_ (cl b26_ 5 [(Value.int .u8 (IntKind.u8.wrap (n1 : Int)))] :: sl 5 1 v31_ ((List.length ns1) + 1) ((bytesV ns1) ++ [(Value.int .u8 (IntKind.u8.wrap (n1 : Int)))]) :: ro R :: F) := H33_
    have S35_ := Same.trans S30_ S34_
    have H36_ : Holds w32_ (cl b26_ 5 [(Value.int .u8 (IntKind.u8.wrap (n1 : Int)))] :: sl 5 1 v31_ (List.length (ns1 ++ [(IntKind.u8.wrap (n1 : Int))])) (bytesV (ns1 ++ [(IntKind.u8.wrap (n1 : Int))])) :: ro R :: F) := cast2 (P := fun (c__ : List Value) (k__ : Nat) => Holds w32_ (cl b26_ 5 [(Value.int .u8 (IntKind.u8.wrap (n1 : Int)))] :: sl 5 1 v31_ k__ c__ :: ro R :: F)) (by simp [bytesV] : (bytesV ns1) ++ [(Value.int .u8 (IntKind.u8.wrap (n1 : Int)))] = bytesV (ns1 ++ [(IntKind.u8.wrap (n1 : Int))])) (by first | (simp; done) | (simp; omega) | (have := RS.blen trivial; simp; omega) : (List.length ns1) + 1 = (List.length (ns1 ++ [(IntKind.u8.wrap (n1 : Int))]))) H33_
    refine S_list (T_val (v := (Value.string (strN (ns1 ++ [(IntKind.u8.wrap (n1 : Int))])))) (x_b2sSl rfl H36_ 1 rfl Try.underlying43 Try.underlying5 Try.underlying9) ?_)
    refine S_list (T_val (v := (Value.string (strN (ns1 ++ [(IntKind.u8.wrap (n1 : Int))])))) (x_assign rfl) ?_)
    refine wpList_nil ?_
    refine (X_then (hK25_ _ _ ?_))
    clear hK25_
    refine C_ret ?_
    refine R_any (v := (Value.string (strN (ns1 ++ [(IntKind.u8.wrap (n1 : Int))])))) (run_results1 rfl rfl) ?_
    have H37_ : Holds w32_ (ro R :: F) := (Holds.erase (Holds.erase (Holds.bring H36_ 2 rfl) 1) 1)
    exact ⟨_, [], rfl, ⟨(congrArg Value.string ((by rw [← hinv, vint_lt (by omega : n1 < 128)]) : (strN (ns1 ++ [(IntKind.u8.wrap (n1 : Int))])) = (strN (vint n)))), rfl⟩, S35_, H37_⟩

set_option maxHeartbeats 400000 in
theorem wBytes (R : HP) (v p : Value) (ns ds : List Int) (hP : RS R 1 p ds.length (bytesV ds)) (q1 : ns.length ≤ 10000000) (q2 : ds.length ≤ 10000000) :
    Tri Try.prog 156 #[v, (Value.int .i64 3), p] R [sl 5 1 v (List.length ns) (bytesV ns)] (fun v__ post__ => ∃ (v' : Value), v__ = v' ∧ post__ = [sl 5 1 v' (List.length (ns ++ ([26] ++ vi ds.length ++ ds))) (bytesV (ns ++ ([26] ++ vi ds.length ++ ds)))]) := by
  have hv26 : vint 26 = [26] := by rw [vint_lt (by omega)]; rfl
  have hvl := vi_len (ds.length : Int)
  have hu := u64_range (ds.length : Int)
  refine Tri.into (n := 21) (al := [v, (Value.int .i64 3), p]) Try.func156 rfl Try.ntmps156 rfl rfl fun w F H => ?_
  replace H : Holds w (ro R :: sl 5 1 v (List.length ns) (bytesV ns) :: F) := H
  refine C_seq (fun K1_ hK1_ => ?_)
  refine C_reg ?_
  refine S_list (T_val (v := (Value.slice none 0 0)) (x_assign rfl) ?_)
  refine wpList_nil ?_
  refine (X_then (hK1_ _ _ ?_))
  clear hK1_
  refine C_seq (fun K2_ hK2_ => ?_)
  refine C_reg ?_
  refine S_list (T_val (v := v) (x_move rfl) ?_)
  refine S_list (T_val (v := (Value.int .i64 3)) (x_move rfl) ?_)
  refine S_list (T_val (v := (Value.int .u64 3)) (x_convI rfl Try.underlying3 Try.underlying171 (by decide)) ?_)
  refine S_list (T_val (v := (Value.int .u64 24)) (x_shl rfl rfl (by decide) (by decide)) ?_)
  refine S_list (T_val (v := (Value.int .u64 26)) (x_bin rfl rfl (by rfl)) ?_)
  refine S_list (T_call (al := [v, (Value.int .u64 (26 : Int))]) (pre := [sl 5 1 v (List.length ns) (bytesV ns)]) (F := F) rfl (lcons rfl (lcons (congrArg (Value.int .u64) ((by first | rfl | omega | (simp; done) | (simp; omega)) : 26 = (26 : Int))) rfl)) cb155 (wVint R v ns 26 (by first | assumption | omega) (by first | assumption | omega)) H ?_)
  rintro v3_ p7_ w4_ ⟨_, rfl, rfl⟩ S6_ H5_
  replace H5_ : Holds w4_ (ro R :: sl 5 1 v3_ (List.length (ns ++ vint 26)) (bytesV (ns ++ vint 26)) :: F) := H5_
  have S8_ := Same.trans (Same.refl w) S6_
  refine S_list (T_val (v := v3_) (x_assign rfl) ?_)
  refine wpList_nil ?_
  refine (X_then (hK2_ _ _ ?_))
  clear hK2_
  refine C_seq (fun K9_ hK9_ => ?_)
  refine C_reg ?_
  refine S_list (T_val (v := v3_) (x_move rfl) ?_)
  refine S_list (T_val (v := p) (x_move rfl) ?_)
  refine S_list (T_val (v := (Value.int .i64 (ds.length : Int))) (x_lenRS rfl hP Try.underlying43) ?_)
  refine S_list (T_val (v := (Value.int .u64 (IntKind.u64.wrap (ds.length : Int)))) (x_convI rfl Try.underlying3 Try.underlying171 rfl) ?_)
  refine S_list (T_call (al := [v3_, (Value.int .u64 (((IntKind.u64.wrap (ds.length : Int)).toNat : Nat) : Int))]) (pre := [sl 5 1 v3_ (List.length (ns ++ vint 26)) (bytesV (ns ++ vint 26))]) (F := F) rfl (lcons rfl (lcons (congrArg (Value.int .u64) ((by first | rfl | omega | (simp; done) | (simp; omega)) : IntKind.u64.wrap (ds.length : Int) = (((IntKind.u64.wrap (ds.length : Int)).toNat : Nat) : Int))) rfl)) cb155 (wVint R v3_ (ns ++ vint 26) ((IntKind.u64.wrap (ds.length : Int)).toNat) (by first | assumption | omega) (by rw [List.length_append, hv26]; simp; omega)) H5_ ?_)
  rintro v10_ p14_ w11_ ⟨_, rfl, rfl⟩ S13_ H12_
  replace H12_ : Holds w11_ (ro R :: sl 5 1 v10_ (List.length ((ns ++ vint 26) ++ vint ((IntKind.u64.wrap (ds.length : Int)).toNat))) (bytesV ((ns ++ vint 26) ++ vint ((IntKind.u64.wrap (ds.length : Int)).toNat))) :: F) := H12_
  have S15_ := Same.trans S8_ S13_
  refine S_list (T_val (v := v10_) (x_assign rfl) ?_)
  refine wpList_nil ?_
  refine (X_then (hK9_ _ _ ?_))
  clear hK9_
  refine C_seq (fun K16_ hK16_ => ?_)
  refine C_reg ?_
  refine S_list (T_val (v := v10_) (x_move rfl) ?_)
  refine S_list (T_val (v := p) (x_move rfl) ?_)
  refine S_list (T_append rfl rfl Try.underlying43 z5 rfl (by decide) H12_ 1 rfl (RS.src hP (Holds.ro_at H12_ 0 rfl) Try.underlying43 (one_bytes _)) (by rw [List.length_append, List.length_append, hv26]; simp only [List.length_cons, List.length_nil]; unfold vi at hvl; omega) ?_)
  intro v17_ w18_ S20_ H19_
  replace H19_ : Holds w18_ (ro R :: sl 5 1 v17_ ((List.length ((ns ++ vint 26) ++ vint ((IntKind.u64.wrap (ds.length : Int)).toNat))) + ds.length) ((bytesV ((ns ++ vint 26) ++ vint ((IntKind.u64.wrap (ds.length : Int)).toNat))) ++ (bytesV ds)) :: F) := H19_
  have S21_ := Same.trans S15_ S20_
  have H22_ : Holds w18_ (ro R :: sl 5 1 v17_ (List.length (((ns ++ vint 26) ++ vint ((IntKind.u64.wrap (ds.length : Int)).toNat)) ++ ds)) (bytesV (((ns ++ vint 26) ++ vint ((IntKind.u64.wrap (ds.length : Int)).toNat)) ++ ds)) :: F) := cast2 (P := fun (c__ : List Value) (k__ : Nat) => Holds w18_ (ro R :: sl 5 1 v17_ k__ c__ :: F)) (bytesV_app _ _ : (bytesV ((ns ++ vint 26) ++ vint ((IntKind.u64.wrap (ds.length : Int)).toNat))) ++ (bytesV ds) = bytesV (((ns ++ vint 26) ++ vint ((IntKind.u64.wrap (ds.length : Int)).toNat)) ++ ds)) (by first | (simp; done) | (simp; omega) | (have := RS.blen hP; simp; omega) : (List.length ((ns ++ vint 26) ++ vint ((IntKind.u64.wrap (ds.length : Int)).toNat))) + ds.length = (List.length (((ns ++ vint 26) ++ vint ((IntKind.u64.wrap (ds.length : Int)).toNat)) ++ ds))) H19_
  refine S_list (T_val (v := v17_) (x_assign rfl) ?_)
  refine wpList_nil ?_
  refine (X_then (hK16_ _ _ ?_))
  clear hK16_
  refine C_ret ?_
  refine R_any (v := v17_) (run_results1 rfl rfl) ?_
  have H23_ : Holds w18_ (ro R :: sl 5 1 v17_ (List.length (ns ++ ([26] ++ vi ds.length ++ ds))) (bytesV (ns ++ ([26] ++ vi ds.length ++ ds))) :: F) := cast2 (P := fun (c__ : List Value) (k__ : Nat) => Holds w18_ (ro R :: sl 5 1 v17_ k__ c__ :: F)) ((by rw [hv26]; simp [vi]) : bytesV (((ns ++ vint 26) ++ vint ((IntKind.u64.wrap (ds.length : Int)).toNat)) ++ ds) = bytesV (ns ++ ([26] ++ vi ds.length ++ ds))) ((by rw [hv26]; simp [vi]) : (List.length (((ns ++ vint 26) ++ vint ((IntKind.u64.wrap (ds.length : Int)).toNat)) ++ ds)) = (List.length (ns ++ ([26] ++ vi ds.length ++ ds)))) H22_
  exact ⟨_, [sl 5 1 v17_ (List.length (ns ++ ([26] ++ vi ds.length ++ ds))) (bytesV (ns ++ ([26] ++ vi ds.length ++ ds)))], rfl, ⟨v17_, rfl, rfl⟩, S21_, H23_⟩
end Go.Proofs.Ytgeggiebefonhaa
