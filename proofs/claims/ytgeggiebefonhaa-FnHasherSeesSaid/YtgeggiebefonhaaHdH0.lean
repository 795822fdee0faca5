/- A sign that rows are hashed. -/
import Derived.Test.YtgeggiebefonhaaHdG
set_option linter.unusedVariables false
set_option linter.unusedSimpArgs false
namespace Go.Proofs.Ytgeggiebefonhaa
open Go Go.RowKit Gw

set_option maxHeartbeats 400000 in
theorem lTwo (R : HP) :
    Tri Try.prog 13 #[] R [] (fun v__ post__ => v__ = (Value.bool true) ∧ post__ = []) := by
  refine Tri.into (n := 10) (al := []) Try.func13 rfl Try.ntmps13 rfl rfl fun w F H => ?_
  replace H : Holds w (ro R :: F) := H
  refine C_seq (fun K1_ hK1_ => ?_)
  refine C_reg ?_
  refine S_list (T_val (v := (Value.bool false)) (x_assign rfl) ?_)
  refine wpList_nil ?_
  refine (X_then (hK1_ _ _ ?_))
  clear hK1_
  refine C_seq (fun K2_ hK2_ => ?_)
  refine C_reg ?_
  refine S_list (T_val (v := (Value.agg #[(Value.int .i64 2), (Value.int .i64 0)])) (by kernel_rfl) ?_)
  refine S_list (T_val (v := (Value.agg #[(Value.string (ByteArray.mk #[107])), (Value.string (ByteArray.mk #[118])), (Value.int .i64 2), (Value.int .i64 2), (Value.int .i64 1), (Value.int .i64 0)])) (by kernel_rfl) ?_)
  refine S_list (T_val (v := (Value.agg #[(Value.int .i64 2), (Value.int .i64 0), (Value.bool false), (Value.string (ByteArray.mk #[107])), (Value.string (ByteArray.mk #[118])), (Value.int .i64 2), (Value.int .i64 2), (Value.int .i64 1), (Value.int .i64 0)])) (by kernel_rfl) ?_)
  refine S_list (T_new (obj := .cells #[(Value.int .i64 2), (Value.int .i64 0), (Value.bool false), (Value.string (ByteArray.mk #[107])), (Value.string (ByteArray.mk #[118])), (Value.int .i64 2), (Value.int .i64 2), (Value.int .i64 1), (Value.int .i64 0)] 42) (f := fun b__ => .slice (some ⟨b__, 0, none⟩) 1 1) (A := fun b__ => cl b__ 42 [(Value.int .i64 2), (Value.int .i64 0), (Value.bool false), (Value.string (ByteArray.mk #[107])), (Value.string (ByteArray.mk #[118])), (Value.int .i64 2), (Value.int .i64 2), (Value.int .i64 1), (Value.int .i64 0)]) (by kernel_rfl) (fun l h => h.alloc _ _) H ?_)
  intro b3_ w4_ S6_ H5_
  replace H5_ : Holds w4_ (cl b3_ 42 [(Value.int .i64 2), (Value.int .i64 0), (Value.bool false), (Value.string (ByteArray.mk #[107])), (Value.string (ByteArray.mk #[118])), (Value.int .i64 2), (Value.int .i64 2), (Value.int .i64 1), (Value.int .i64 0)] :: ro R :: F) := H5_
  have S7_ := Same.trans (Same.refl w) S6_
  refine S_list (T_val (v := (Value.slice (some ⟨b3_, 0, none⟩) 1 1)) (x_assign rfl) ?_)
  refine wpList_nil ?_
  refine (X_then (hK2_ _ _ ?_))
  clear hK2_
  refine C_seq (fun K8_ hK8_ => ?_)
  refine C_reg ?_
  refine S_list (T_val (v := (Value.slice (some ⟨b3_, 0, none⟩) 1 1)) (x_move rfl) ?_)
  have H9_ : Holds w4_ (ro R :: cl b3_ 42 [(Value.int .i64 2), (Value.int .i64 0), (Value.bool false), (Value.string (ByteArray.mk #[107])), (Value.string (ByteArray.mk #[118])), (Value.int .i64 2), (Value.int .i64 2), (Value.int .i64 1), (Value.int .i64 0)] :: F) := (Holds.bring (Holds.bring H5_ 0 rfl) 1 rfl)
  obtain ⟨R10_, hs11_, ⟨R12_, ha13_, hs14_⟩, H15_⟩ := Holds.gift H9_
  replace H15_ : Holds w4_ (ro R10_ :: F) := H15_
  have hr16_ : RS R10_ 9 (Value.slice (some ⟨b3_, 0, none⟩) 1 1) 1 ([row1].flatMap RW.cells) := (RS.set_ (cl_RSn (sz := 9) ha13_ (Sub.rfl' _) (by rfl) (by omega)) rfl rfl).mono hs14_
  refine S_list (T_call (al := [(Value.int .i64 (-1)), (Value.int .i64 9), ((Value.slice none 0 0)), ((Value.slice (some ⟨b3_, 0, none⟩) 1 1))]) (pre := []) (F := F) rfl (lcons rfl (lcons rfl (lcons (rfl : (Value.slice none 0 0) = ((Value.slice none 0 0))) (lcons (rfl : (Value.slice (some ⟨b3_, 0, none⟩) 1 1) = ((Value.slice (some ⟨b3_, 0, none⟩) 1 1))) rfl)))) cb16 (hHasher R10_ (-1) 9 (Value.slice none 0 0) (Value.slice (some ⟨b3_, 0, none⟩) 1 1) ([] : List RV) [row1] (RS.set_ (RS.nil R10_ 2) (by first | rfl | (simp [RW.cells, ZR.cells, RV.cells, MR.cells]; done)) (by first | rfl | omega | (simp; done) | (simp; omega))) (RS.set_ hr16_ rfl (by first | rfl | omega | (simp; done) | (simp; omega))) (by decide) (by decide) (fun x hx => by rw [List.mem_singleton.1 hx]; decide) (by first | assumption | omega) (by first | assumption | omega) (by first | assumption | omega) (by first | assumption | omega)) H15_ ?_)
  rintro v17_ p21_ w18_ ⟨rfl, rfl⟩ S20_ H19_
  replace H19_ : Holds w18_ (ro R10_ :: F) := H19_
  have S22_ := Same.trans S7_ S20_
  refine S_list (T_call (al := [(Value.int .i64 (-1)), (Value.int .i64 9), ((Value.slice none 0 0)), ((Value.slice none 0 0))]) (pre := []) (F := F) rfl (lcons rfl (lcons rfl (lcons (rfl : (Value.slice none 0 0) = ((Value.slice none 0 0))) (lcons (rfl : (Value.slice none 0 0) = ((Value.slice none 0 0))) rfl)))) cb16 (hHasher R10_ (-1) 9 (Value.slice none 0 0) (Value.slice none 0 0) ([] : List RV) ([] : List RW) (RS.set_ (RS.nil R10_ 2) (by first | rfl | (simp [RW.cells, ZR.cells, RV.cells, MR.cells]; done)) (by first | rfl | omega | (simp; done) | (simp; omega))) (RS.set_ (RS.nil R10_ 9) (by first | rfl | (simp [RW.cells, ZR.cells, RV.cells, MR.cells]; done)) (by first | rfl | omega | (simp; done) | (simp; omega))) (by decide) (by decide) (fun x hx => by cases hx) (by first | assumption | omega) (by first | assumption | omega) (by first | assumption | omega) (by first | assumption | omega)) H19_ ?_)
  rintro v23_ p27_ w24_ ⟨rfl, rfl⟩ S26_ H25_
  replace H25_ : Holds w24_ (ro R10_ :: F) := H25_
  have S28_ := Same.trans S22_ S26_
  refine S_list (T_val (v := (Value.bool (decide (hash (-1) 9 ([] : List RV) [row1] ≠ hash (-1) 9 ([] : List RV) ([] : List RW))))) (x_bin rfl rfl rfl) ?_)
  refine S_list (T_val (v := (Value.bool (decide (hash (-1) 9 ([] : List RV) [row1] ≠ hash (-1) 9 ([] : List RV) ([] : List RW))))) (x_assign rfl) ?_)
  refine wpList_nil ?_
  refine (X_then (hK8_ _ _ ?_))
  clear hK8_
  refine C_ret ?_
  refine R_any (v := (Value.bool (decide (hash (-1) 9 ([] : List RV) [row1] ≠ hash (-1) 9 ([] : List RV) ([] : List RW))))) (run_results1 rfl rfl) ?_
  have H29_ : Holds w24_ (ro R :: F) := Holds.ro_less H25_ hs11_
  exact ⟨_, [], rfl, ⟨(congrArg Value.bool ((decide_eq_true hash_two) : (decide (hash (-1) 9 ([] : List RV) [row1] ≠ hash (-1) 9 ([] : List RV) ([] : List RW))) = true)), rfl⟩, S28_, H29_⟩
end Go.Proofs.Ytgeggiebefonhaa
