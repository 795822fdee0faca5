/- The hash of rows. -/
import Derived.Test.YtgeggiebefonhaaHcB0
set_option linter.unusedVariables false
set_option linter.unusedSimpArgs false
namespace Go.Proofs.Ytgeggiebefonhaa
open Go Go.RowKit Gw

set_option maxHeartbeats 400000 in
theorem hHasher (R : HP) (compact rev : Int) (vk vr : Value) (K : List RV) (L : List RW) (hKs : RS R 2 vk K.length (K.flatMap RV.cells)) (hLs : RS R 9 vr L.length (L.flatMap RW.cells)) (hl : L.length ≤ 1000) (hKl : K.length ≤ 1000) (hS : ∀ x ∈ L, 0 ≤ x.rev_Main ∧ x.rev_Main < 9223372036854775808 ∧ 0 ≤ x.rev_Sub ∧ x.rev_Sub < 9223372036854775808 ∧ x.kV_Key.size ≤ 100 ∧ x.kV_Value.size ≤ 100) (hr0 : 0 ≤ rev) (hr1 : rev < 4611686018427387904) (hc0 : -1 ≤ compact) (hc1 : compact < 4611686018427387904) :
    Tri Try.prog 16 #[(Value.int .i64 compact), (Value.int .i64 rev), vk, vr] R [] (fun v__ post__ => v__ = (Value.int .u32 (hash compact rev K L)) ∧ post__ = []) := by
  refine Tri.into (n := 16) (al := [(Value.int .i64 compact), (Value.int .i64 rev), vk, vr]) Try.func16 rfl Try.ntmps16 rfl rfl fun w F H => ?_
  replace H : Holds w (ro R :: F) := H
  refine C_seq (fun K1_ hK1_ => ?_)
  refine C_reg ?_
  refine S_list (T_val (v := (Value.int .u32 0)) (x_assign rfl) ?_)
  refine wpList_nil ?_
  refine (X_then (hK1_ _ _ ?_))
  clear hK1_
  refine C_seq (fun K2_ hK2_ => ?_)
  refine C_reg ?_
  refine S_list (T_val (v := (Value.int .i64 compact)) (x_move rfl) ?_)
  refine S_list (T_val (v := (Value.int .i64 rev)) (x_move rfl) ?_)
  refine S_list (T_val (v := vk) (x_move rfl) ?_)
  refine S_list (T_call (al := [vk]) (pre := []) (F := F) rfl rfl cb42 (hRevsIn R vk K hKs (by first | assumption | omega)) H ?_)
  rintro v3_ p7_ w4_ ⟨_, rfl, rfl⟩ S6_ H5_
  replace H5_ : Holds w4_ (ro R :: sl 146 2 v3_ (List.length K) (K.flatMap RV.cells) :: F) := H5_
  have S8_ := Same.trans (Same.refl w) S6_
  refine S_list (T_val (v := vr) (x_move rfl) ?_)
  refine S_list (T_callG (al := [vr]) (pre := []) (F := sl 146 2 v3_ (List.length K) (K.flatMap RV.cells) :: F) rfl rfl cb43 (hRowsIn R vr L hLs (by first | assumption | omega) (fun x hx => (hS x hx).2.2.2.2)) H5_ ?_)
  rintro R10_ v11_ p17_ w14_ hs9_ ⟨_, zs12_, rfl, rfl, he13_⟩ S16_ H15_
  replace H15_ : Holds w14_ (ro R10_ :: sl 166 4 v11_ (List.length zs12_) (zs12_.flatMap ZR.cells) :: sl 146 2 v3_ (List.length K) (K.flatMap RV.cells) :: F) := H15_
  have S18_ := Same.trans S8_ S16_
  have hzl_ := he13_.1
  have H19_ : Holds w14_ (ro R10_ :: sl 146 2 v3_ (List.length K) (K.flatMap RV.cells) :: sl 166 4 v11_ (List.length zs12_) (zs12_.flatMap ZR.cells) :: F) := (Holds.bring (Holds.bring H15_ 2 rfl) 1 rfl)
  obtain ⟨R20_, hs21_, ⟨R22_, ha23_, hs24_⟩, H25_⟩ := Holds.gift H19_
  replace H25_ : Holds w14_ (ro R20_ :: sl 166 4 v11_ (List.length zs12_) (zs12_.flatMap ZR.cells) :: F) := H25_
  have hs26_ := Sub.trans' hs9_ hs21_
  have hr27_ : RS R20_ 2 v3_ (List.length K) (K.flatMap RV.cells) := (sl_RS ha23_ (Sub.rfl' _)).mono hs24_
  obtain ⟨R28_, hs29_, ⟨R30_, ha31_, hs32_⟩, H33_⟩ := Holds.gift H25_
  replace H33_ : Holds w14_ (ro R28_ :: F) := H33_
  have hs34_ := Sub.trans' hs26_ hs29_
  have hs35_ := Sub.trans' hs21_ hs29_
  have hr36_ : RS R28_ 4 v11_ (List.length zs12_) (zs12_.flatMap ZR.cells) := (sl_RS ha31_ (Sub.rfl' _)).mono hs32_
  refine S_list (T_call (al := [(Value.int .i64 compact), (Value.int .i64 rev), v3_, v11_]) (pre := []) (F := F) rfl rfl cb41 (hZzHash R28_ compact rev v3_ v11_ K zs12_ L (RS.set_ (RS.mono hr27_ hs29_) rfl (by first | rfl | omega | (simp; done) | (simp; omega))) (RS.set_ hr36_ rfl (by first | rfl | omega | (simp; done) | (simp; omega))) (ZipR.mono he13_ hs35_) (by first | assumption | omega) (by first | assumption | omega) (by first | assumption | omega) (by first | assumption | omega) (by first | assumption | omega) (by first | assumption | omega) (by first | assumption | omega)) H33_ ?_)
  rintro v37_ p41_ w38_ ⟨rfl, rfl⟩ S40_ H39_
  replace H39_ : Holds w38_ (ro R28_ :: F) := H39_
  have S42_ := Same.trans S18_ S40_
  refine S_list (T_val (v := (Value.int .u32 (hash compact rev K L))) (x_assign rfl) ?_)
  refine wpList_nil ?_
  refine (X_then (hK2_ _ _ ?_))
  clear hK2_
  refine C_ret ?_
  refine R_any (v := (Value.int .u32 (hash compact rev K L))) (run_results1 rfl rfl) ?_
  have H43_ : Holds w38_ (ro R :: F) := Holds.ro_less H39_ hs34_
  exact ⟨_, [], rfl, ⟨rfl, rfl⟩, S42_, H43_⟩
end Go.Proofs.Ytgeggiebefonhaa
