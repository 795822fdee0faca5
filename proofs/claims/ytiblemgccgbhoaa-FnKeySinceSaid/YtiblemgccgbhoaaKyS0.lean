/- The life at a number. -/
import Derived.Test.YtiblemgccgbhoaaKyR0
set_option linter.unusedVariables false
set_option linter.unusedSimpArgs false
namespace Go.Proofs.Ytiblemgccgbhoaa
open Go Go.RowKit Gw

def gEnd (g : GM) : Int := (g.l.getLast?.map RV.main).getD 0
def gBeg (g : GM) : Int := (g.l.head?.map RV.main).getD 0
/-- The life at a number, among the first n of some lives. -/
def iFindN (G : List GM) (at_ : Int) : Nat → Option Nat
  | 0 => none
  | c + 1 => match G[c]? with
    | none => none
    | some g => if g.l.length = 0 then iFindN G at_ c else if c + 1 ≠ G.length ∧ gEnd g ≤ at_ then none else if gBeg g ≤ at_ then some c else iFindN G at_ c
def iFind (G : List GM) (at_ : Int) : Option Nat := iFindN G at_ G.length
section
variable {N : List GN} {at_ : Int} {c : Nat} {x : GN} {y z : RV}
theorem gmap_at (h : N[((c : Int) - 1).toNat]? = some x) (hc : 0 < c) : (N.map GN.m)[c - 1]? = some x.m ∧ c = c - 1 + 1 := by
  rw [show ((c : Int) - 1).toNat = c - 1 by omega] at h
  exact ⟨by rw [List.getElem?_map, h]; rfl, by omega⟩
theorem gEnd_at (h : x.l[((x.l.length : Int) - 1).toNat]? = some y) : gEnd x.m = y.main := by
  rw [show ((x.l.length : Int) - 1).toNat = x.l.length - 1 by omega] at h
  unfold gEnd
  rw [List.getLast?_eq_getElem?, show x.m.l = x.l from rfl, h]; rfl
theorem gBeg_at (h : x.l[0]? = some z) : gBeg x.m = z.main := by
  unfold gBeg
  rw [List.head?_eq_getElem?, show x.m.l = x.l from rfl, h]; rfl
theorem iFind_empty (h : N[((c : Int) - 1).toNat]? = some x) (hc : 0 < c) (he : (x.l.length : Int) = 0) : iFindN (N.map GN.m) at_ c = iFindN (N.map GN.m) at_ (c - 1) := by
  obtain ⟨h1, h2⟩ := gmap_at h hc
  rw [h2, iFindN, h1]
  simp only [show x.m.l.length = 0 from by show x.l.length = 0; omega, if_true, Nat.add_sub_cancel]
theorem iFind_ended (h : N[((c : Int) - 1).toNat]? = some x) (hc : 0 < c) (he : ¬ (x.l.length : Int) = 0) (hl : (c : Int) - 1 ≠ (N.length : Int) - 1) (hy : x.l[((x.l.length : Int) - 1).toNat]? = some y) (ha : y.main ≤ at_) : iFindN (N.map GN.m) at_ c = none := by
  obtain ⟨h1, h2⟩ := gmap_at h hc
  rw [h2, iFindN, h1]
  simp only [if_neg (show ¬ x.m.l.length = 0 from fun e => he (by rw [show x.m.l = x.l from rfl] at e; omega)), gEnd_at hy, List.length_map]
  rw [if_pos ⟨by omega, ha⟩]
theorem iFind_yes (h : N[((c : Int) - 1).toNat]? = some x) (hc : 0 < c) (he : ¬ (x.l.length : Int) = 0) (hl : (c : Int) - 1 = (N.length : Int) - 1 ∨ ∃ y, x.l[((x.l.length : Int) - 1).toNat]? = some y ∧ ¬ y.main ≤ at_) (hz : x.l[0]? = some z) (ha : z.main ≤ at_) : iFindN (N.map GN.m) at_ c = some ((c : Int) - 1).toNat := by
  obtain ⟨h1, h2⟩ := gmap_at h hc
  rw [h2, iFindN, h1]
  simp only [if_neg (show ¬ x.m.l.length = 0 from fun e => he (by rw [show x.m.l = x.l from rfl] at e; omega)), List.length_map]
  rw [if_neg, gBeg_at hz, if_pos ha, show ((c - 1 + 1 : Nat) : Int) - 1 = ((c - 1 : Nat) : Int) by omega, Int.toNat_natCast]
  rintro ⟨h3, h4⟩
  rcases hl with hl | ⟨y, hy, hl⟩
  · omega
  · rw [gEnd_at hy] at h4; exact hl h4
theorem iFind_no (h : N[((c : Int) - 1).toNat]? = some x) (hc : 0 < c) (he : ¬ (x.l.length : Int) = 0) (hl : (c : Int) - 1 = (N.length : Int) - 1 ∨ ∃ y, x.l[((x.l.length : Int) - 1).toNat]? = some y ∧ ¬ y.main ≤ at_) (hz : x.l[0]? = some z) (ha : ¬ z.main ≤ at_) : iFindN (N.map GN.m) at_ c = iFindN (N.map GN.m) at_ (c - 1) := by
  obtain ⟨h1, h2⟩ := gmap_at h hc
  conv => lhs; rw [h2, iFindN, h1]
  simp only [if_neg (show ¬ x.m.l.length = 0 from fun e => he (by rw [show x.m.l = x.l from rfl] at e; omega)), List.length_map]
  rw [if_neg, gBeg_at hz, if_neg ha]
  rintro ⟨h3, h4⟩
  rcases hl with hl | ⟨y, hy, hl⟩
  · omega
  · rw [gEnd_at hy] at h4; exact hl h4
end


set_option maxHeartbeats 1000000 in
theorem kFind (R : HP) (kb : Nat) (ka : Option Addr) (kl kc : Nat) (m n : Int) (gv : Value) (N : List GN) (at_ : Int) (h1 : RS R 4 gv (List.length N) (N.flatMap GN.cells)) (hg1 : ∀ x ∈ N, GOk R x) (hb1 : N.length ≤ 100000) (hb2 : ∀ x ∈ N, x.l.length ≤ 100000) :
    Tri Try.prog 70 #[(Value.pointer (some ⟨kb, 0, none⟩)), (Value.int .i64 at_)] R [cl kb 104 [(Value.slice ka kl kc), (Value.int .i64 m), (Value.int .i64 n), gv]] (fun v__ post__ => (v__ = (Value.pointer none) ∧ post__ = [cl kb 104 [(Value.slice ka kl kc), (Value.int .i64 m), (Value.int .i64 n), gv]] ∧ (iFind (N.map GN.m) at_ = none)) ∨ (∃ (j : Nat) (x : GN), v__ = (Value.pointer (some ⟨(sb gv), so gv + (j * 4 + 0), none⟩)) ∧ post__ = [cl kb 104 [(Value.slice ka kl kc), (Value.int .i64 m), (Value.int .i64 n), gv]] ∧ (iFind (N.map GN.m) at_ = some j) ∧ (N[j]? = some x))) := by
 refine Tri.into (n := 67) (al := [(Value.pointer (some ⟨kb, 0, none⟩)), (Value.int .i64 at_)]) Try.func70 rfl Try.ntmps70 rfl rfl fun w F H => ?_
 refine C_seq (fun K1_ hK1_ => ?_)
 refine C_reg ?_
 refine S_list (T_val (v := (Value.pointer none)) (x_assign rfl) ?_)
 refine wpList_nil ?_
 refine (X_then (hK1_ _ _ ?_))
 clear hK1_
 refine C_seq (fun K2_ hK2_ => ?_)
 refine C_reg ?_
 refine S_list (T_val (v := (Value.pointer (some ⟨kb, 0, none⟩))) (x_move rfl) ?_)
 refine S_list (T_val (v := (Value.pointer (some ⟨kb, 0, none⟩))) (by kernel_rfl) ?_)
 refine S_list (T_val (v := (Value.pointer (some ⟨kb, 3, none⟩))) (by kernel_rfl) ?_)
 refine S_list (T_val (v := gv) (x_load1 rfl Try.underlying102 rfl ((Holds.rd H 1 rfl) 3 gv rfl)) ?_)
 refine S_list (T_val (v := (Value.int .i64 ((List.length N) : Int))) (x_lenRS rfl h1 Try.underlying102) ?_)
 refine S_list (T_val (v := (Value.int .i64 (((List.length N) : Int) - 1))) (x_bin rfl rfl (ib_sub (IntWalk.i64_in _ (by omega)))) ?_)
 refine S_list (T_val (v := (Value.int .i64 (((List.length N) : Int) - 1))) (x_assign rfl) ?_)
 refine wpList_nil ?_
 refine (X_then (hK2_ _ _ ?_))
 clear hK2_
 refine C_seq (fun K3_ hK3_ => ?_)
 refine C_reg ?_
 refine S_list (T_val (v := (Value.int .i64 (((List.length N) : Int) - 1))) (x_move rfl) ?_)
 refine S_list (T_val (v := (Value.int .i64 (((List.length N) : Int) - 1))) (x_assign rfl) ?_)
 refine wpList_nil ?_
 refine (X_then (hK3_ _ _ ?_))
 clear hK3_
 refine C_seq (fun K4_ hK4_ => ?_)
 refine C_block ?_
 refine C_loop (γ := Nat × Value) (fun x__ a__ w1__ => match x__ with | ⟨c, t4_v⟩ => ∃ h : Env, a__ = mkA 67 (upd (upd (upd (upd (upd h 0 (Value.pointer (some ⟨kb, 0, none⟩))) 1 (Value.int .i64 at_)) 4 t4_v) 5 (Value.int .i64 (((List.length N) : Int) - 1))) 6 (Value.int .i64 ((c : Int) - 1))) [] ∧ Holds w1__ (ro R :: cl kb 104 [(Value.slice ka kl kc), (Value.int .i64 m), (Value.int .i64 n), gv] :: F) ∧ Same w w1__ ∧ (c ≤ N.length) ∧ (iFindN (N.map GN.m) at_ N.length = iFindN (N.map GN.m) at_ c)) (fun x__ => match x__ with | ⟨c, t4_v⟩ => c) (⟨N.length, (Value.pointer none)⟩) ⟨_, congrArg (fun e => mkA 67 e []) (ch (ch (ch (ch (ch rfl rfl) rfl) (rfl : (Value.pointer none) = ((Value.pointer none)))) rfl) (congrArg (Value.int .i64) ((by first | rfl | omega | (simp; done) | (simp; omega)) : ((List.length N) : Int) - 1 = (N.length : Int) - 1))), H, (Same.refl w), (by first | assumption | omega | exact rfl), (rfl)⟩ ?_
 rintro ⟨c, t4_v⟩ _ w5_ ⟨h, rfl, H6_, S7_, hc, hin⟩
 refine C_seq (fun K8_ hK8_ => ?_)
 refine C_seq (fun K9_ hK9_ => ?_)
 refine C_reg ?_
 refine S_list (T_val (v := (Value.int .i64 ((c : Int) - 1))) (x_move rfl) ?_)
 refine S_list (T_val (v := (Value.bool (decide (0 ≤ (c : Int) - 1)))) (x_bin rfl rfl rfl) ?_)
 refine wpList_nil ?_
 refine (X_then (hK9_ _ _ ?_))
 clear hK9_
 refine C_cond (b := decide (0 ≤ (c : Int) - 1)) rfl (fun c10_t => ?_) (fun c10_f => ?_)
 ·have c10_tp : 0 ≤ (c : Int) - 1 := of_decide_eq_true c10_t
  refine C_skip (X_then (hK8_ _ _ ?_))
  clear hK8_
  refine C_block ?_
  refine C_seq (fun K11_ hK11_ => ?_)
  refine C_seq (fun K12_ hK12_ => ?_)
  refine C_reg ?_
  refine S_list (T_val (v := (Value.pointer (some ⟨kb, 0, none⟩))) (x_move rfl) ?_)
  refine S_list (T_val (v := (Value.pointer (some ⟨kb, 0, none⟩))) (by kernel_rfl) ?_)
  refine S_list (T_val (v := (Value.pointer (some ⟨kb, 3, none⟩))) (by kernel_rfl) ?_)
  refine S_list (T_val (v := gv) (x_load1 rfl Try.underlying102 rfl ((Holds.rd H6_ 1 rfl) 3 gv rfl)) ?_)
  refine S_list (T_val (v := (Value.int .i64 ((c : Int) - 1))) (x_move rfl) ?_)
  obtain ⟨x13_, hx14_, hm15_⟩ := elem_at N (((c : Int) - 1).toNat) (by omega)
  have hp16_ := hg1 x13_ hm15_
  have hp17_ := hb2 x13_ hm15_
  have hg18_ := hg1 x13_ hm15_
  refine S_list (T_val (v := (Value.pointer (some ⟨(sb gv), so gv + ((((c : Int) - 1).toNat) * 4 + 0), none⟩))) (x_idxRS (v := gv) rfl h1 rfl Try.underlying102 z106 (by omega) (by omega) (by omega : _ = ((c : Int) - 1).toNat) rfl) ?_)
  refine S_list (T_val (v := (Value.pointer (some ⟨(sb gv), so gv + ((((c : Int) - 1).toNat) * 4 + 3), none⟩))) (by kernel_rfl) ?_)
  refine S_list (T_val (v := x13_.revs) (x_load1 rfl Try.underlying80 rfl (RC.cell (RS.rc h1) (Holds.ro_at H6_ 0 rfl) (j := (((c : Int) - 1).toNat) * 4 + 3) (u := x13_.revs) (fm_cell GN.len hx14_ (i := 3) rfl))) ?_)
  refine S_list (T_val (v := (Value.int .i64 ((List.length x13_.l) : Int))) (x_lenRS rfl hg18_ Try.underlying80) ?_)
  refine S_list (T_val (v := (Value.bool (decide (((List.length x13_.l) : Int) = 0)))) (x_bin rfl rfl rfl) ?_)
  refine wpList_nil ?_
  refine (X_then (hK12_ _ _ ?_))
  clear hK12_
  refine C_cond (b := decide (((List.length x13_.l) : Int) = 0)) rfl (fun c19_t => ?_) (fun c19_f => ?_)
  ·have c19_tp : ((List.length x13_.l) : Int) = 0 := of_decide_eq_true c19_t
   refine C_seq (fun K20_ hK20_ => ?_)
   refine C_reg ?_
   refine S_list (T_val (v := (Value.int .i64 ((c : Int) - 1))) (x_move rfl) ?_)
   refine S_list (T_val (v := (Value.int .i64 (((c : Int) - 1) - 1))) (x_bin rfl rfl (ib_sub (IntWalk.i64_in _ (by omega)))) ?_)
   refine S_list (T_val (v := (Value.int .i64 (((c : Int) - 1) - 1))) (x_assign rfl) ?_)
   refine wpList_nil ?_
   refine (X_then (hK20_ _ _ ?_))
   clear hK20_
   refine C_exit (X_thenX (X_blkHit ?_))
   refine (X_then ?_)
   exact ⟨⟨c - 1, t4_v⟩, ⟨_, congrArg (fun e => mkA 67 e []) (ch (ch (ch (ch (ch rfl rfl) rfl) rfl) rfl) (congrArg (Value.int .i64) ((by first | rfl | omega | (simp; done) | (simp; omega)) : ((c : Int) - 1) - 1 = ((c - 1 : Nat) : Int) - 1))), H6_, S7_, (by first | assumption | omega | exact rfl), (by rw [hin, iFind_empty hx14_ (by omega) c19_tp])⟩, by first | omega | (dsimp only; omega) | (simp; omega)⟩
  ·have c19_fp : ¬ (((List.length x13_.l) : Int) = 0) := of_decide_eq_false c19_f
   refine C_skip (X_then (hK11_ _ _ ?_))
   clear hK11_
   refine C_seq (fun K21_ hK21_ => ?_)
   refine C_reg ?_
   refine S_list (T_val (v := (Value.pointer (some ⟨kb, 0, none⟩))) (x_move rfl) ?_)
   refine S_list (T_val (v := (Value.pointer (some ⟨kb, 0, none⟩))) (by kernel_rfl) ?_)
   refine S_list (T_val (v := (Value.pointer (some ⟨kb, 3, none⟩))) (by kernel_rfl) ?_)
   refine S_list (T_val (v := gv) (x_load1 rfl Try.underlying102 rfl ((Holds.rd H6_ 1 rfl) 3 gv rfl)) ?_)
   refine S_list (T_val (v := (Value.int .i64 ((c : Int) - 1))) (x_move rfl) ?_)
   refine S_list (T_val (v := (Value.pointer (some ⟨(sb gv), so gv + ((((c : Int) - 1).toNat) * 4 + 0), none⟩))) (x_idxRS (v := gv) rfl h1 rfl Try.underlying102 z106 (by omega) (by omega) (by omega : _ = ((c : Int) - 1).toNat) rfl) ?_)
   refine S_list (T_val (v := (Value.agg #[(Value.int .i64 x13_.ver), (Value.int .i64 x13_.created_Main), (Value.int .i64 x13_.created_Sub), x13_.revs])) (x_loadN (vs := [(Value.int .i64 x13_.ver), (Value.int .i64 x13_.created_Main), (Value.int .i64 x13_.created_Sub), x13_.revs]) rfl Try.underlying106 rfl z106 rfl (RC.cells (RS.rc h1) (Holds.ro_at H6_ 0 rfl) ((((c : Int) - 1).toNat) * 4 + 0) (fm_cells GN.len hx14_ (i := 0) rfl))) ?_)
   refine S_list (T_alloc z106 H6_ ?_)
   intro b22_ w23_ S25_ H24_
   have S26_ := Same.trans S7_ S25_
   refine S_list0 (T_storeN (vs := [(Value.int .i64 x13_.ver), (Value.int .i64 x13_.created_Main), (Value.int .i64 x13_.created_Sub), x13_.revs]) rfl rfl z106 rfl (List.forall_mem_cons.2 ⟨rfl, (List.forall_mem_cons.2 ⟨rfl, (List.forall_mem_cons.2 ⟨rfl, (List.forall_mem_cons.2 ⟨(RS.one hg18_), (fun _ h__ => by cases h__)⟩)⟩)⟩)⟩) H24_ 0 rfl (Nat.le_of_ble_eq_true (by rfl)) ?_)
   intro w27_ S29_ H28_
   replace H28_ : Holds w27_ (cl b22_ 106 [(Value.int .i64 x13_.ver), (Value.int .i64 x13_.created_Main), (Value.int .i64 x13_.created_Sub), x13_.revs] :: ro R :: cl kb 104 [(Value.slice ka kl kc), (Value.int .i64 m), (Value.int .i64 n), gv] :: F) := H28_
   have S30_ := Same.trans S26_ S29_
   refine wpList_nil ?_
   refine (X_then (hK21_ _ _ ?_))
   clear hK21_
   refine C_seq (fun K31_ hK31_ => ?_)
   refine C_seq (fun K32_ hK32_ => ?_)
   refine C_reg ?_
   refine S_list (T_val (v := (Value.int .i64 ((c : Int) - 1))) (x_move rfl) ?_)
   refine S_list (T_val (v := (Value.int .i64 (((List.length N) : Int) - 1))) (x_move rfl) ?_)
   refine S_list (T_val (v := (Value.bool (decide ((c : Int) - 1 ≠ ((List.length N) : Int) - 1)))) (x_bin rfl rfl rfl) ?_)
   refine wpList_nil ?_
   refine (X_then (hK32_ _ _ ?_))
   clear hK32_
   refine C_cond (b := decide ((c : Int) - 1 ≠ ((List.length N) : Int) - 1)) rfl (fun c33_t => ?_) (fun c33_f => ?_)
   ·have c33_tp : (c : Int) - 1 ≠ ((List.length N) : Int) - 1 := of_decide_eq_true c33_t
    refine C_seq (fun K34_ hK34_ => ?_)
    refine C_reg ?_
    refine S_list (T_val (v := (Value.pointer (some ⟨b22_, 3, none⟩))) (by kernel_rfl) ?_)
    refine S_list (T_val (v := x13_.revs) (x_load1 rfl Try.underlying80 rfl ((Holds.rd H28_ 0 rfl) 3 x13_.revs rfl)) ?_)
    refine S_list (T_val (v := (Value.pointer (some ⟨b22_, 3, none⟩))) (by kernel_rfl) ?_)
    refine S_list (T_val (v := x13_.revs) (x_load1 rfl Try.underlying80 rfl ((Holds.rd H28_ 0 rfl) 3 x13_.revs rfl)) ?_)
    refine S_list (T_val (v := (Value.int .i64 ((List.length x13_.l) : Int))) (x_lenRS rfl hg18_ Try.underlying80) ?_)
    refine S_list (T_val (v := (Value.int .i64 (((List.length x13_.l) : Int) - 1))) (x_bin rfl rfl (ib_sub (IntWalk.i64_in _ (by omega)))) ?_)
    obtain ⟨x35_, hx36_, hm37_⟩ := elem_at x13_.l ((((List.length x13_.l) : Int) - 1).toNat) (by omega)
    refine S_list (T_val (v := (Value.pointer (some ⟨(sb x13_.revs), so x13_.revs + (((((List.length x13_.l) : Int) - 1).toNat) * 2 + 0), none⟩))) (x_idxRS (v := x13_.revs) rfl hg18_ rfl Try.underlying80 z58 (by omega) (by omega) (by omega : _ = (((List.length x13_.l) : Int) - 1).toNat) rfl) ?_)
    refine S_list (T_val (v := (Value.pointer (some ⟨(sb x13_.revs), so x13_.revs + (((((List.length x13_.l) : Int) - 1).toNat) * 2 + 0), none⟩))) (by kernel_rfl) ?_)
    refine S_list (T_val (v := (Value.int .i64 x35_.main)) (x_load1 rfl Try.underlying2 rfl (RC.cell (RS.rc hg18_) (Holds.ro_at H28_ 1 rfl) (j := ((((List.length x13_.l) : Int) - 1).toNat) * 2 + 0) (u := (Value.int .i64 x35_.main)) (fm_cell RV.len hx36_ (i := 0) rfl))) ?_)
    refine S_list (T_val (v := (Value.int .i64 x35_.main)) (x_assign rfl) ?_)
    refine wpList_nil ?_
    refine (X_then (hK34_ _ _ ?_))
    clear hK34_
    refine C_seq (fun K38_ hK38_ => ?_)
    refine C_reg ?_
    refine S_list (T_val (v := (Value.int .i64 x35_.main)) (x_move rfl) ?_)
    refine S_list (T_val (v := (Value.int .i64 at_)) (x_move rfl) ?_)
    refine S_list (T_val (v := (Value.bool (decide (x35_.main ≤ at_)))) (x_bin rfl rfl rfl) ?_)
    refine wpList_nil ?_
    refine (X_then (hK38_ _ _ ?_))
    clear hK38_
    refine C_cond (b := decide (x35_.main ≤ at_)) rfl (fun c39_t => ?_) (fun c39_f => ?_)
    ·have c39_tp : x35_.main ≤ at_ := of_decide_eq_true c39_t
     refine C_seq (fun K40_ hK40_ => ?_)
     refine C_reg ?_
     refine S_list (T_val (v := (Value.pointer none)) (x_assign rfl) ?_)
     refine wpList_nil ?_
     refine (X_then (hK40_ _ _ ?_))
     clear hK40_
     refine C_ret (X_thenR (X_blkR (X_thenR (X_blkR (X_thenR ?_)))))
     refine R_any (v := (Value.pointer none)) (run_results1 rfl rfl) ?_
     have H41_ : Holds w27_ (ro R :: cl kb 104 [(Value.slice ka kl kc), (Value.int .i64 m), (Value.int .i64 n), gv] :: F) := (Holds.pkF H28_ [1, 1] 1 :)
     exact ⟨_, _, rfl, (.inl ⟨rfl, rfl, (by rw [iFind, List.length_map, hin, iFind_ended hx14_ (by omega) c19_fp c33_tp hx36_ c39_tp])⟩), S30_, H41_⟩
    ·have c39_fp : ¬ (x35_.main ≤ at_) := of_decide_eq_false c39_f
     refine C_skip (X_then (hK31_ _ _ ?_))
     clear hK31_
     refine C_seq (fun K42_ hK42_ => ?_)
     refine C_seq (fun K43_ hK43_ => ?_)
     refine C_reg ?_
     refine S_list (T_val (v := (Value.pointer (some ⟨b22_, 3, none⟩))) (by kernel_rfl) ?_)
     refine S_list (T_val (v := x13_.revs) (x_load1 rfl Try.underlying80 rfl ((Holds.rd H28_ 0 rfl) 3 x13_.revs rfl)) ?_)
     obtain ⟨x44_, hx45_, hm46_⟩ := elem_at x13_.l 0 (by omega)
     refine S_list (T_val (v := (Value.pointer (some ⟨(sb x13_.revs), so x13_.revs + (0 + 0), none⟩))) (x_idxRS (v := x13_.revs) rfl hg18_ rfl Try.underlying80 z58 (by omega) (by omega) (by omega : _ = 0) rfl) ?_)
     refine S_list (T_val (v := (Value.pointer (some ⟨(sb x13_.revs), so x13_.revs + (0 + 0), none⟩))) (by kernel_rfl) ?_)
     refine S_list (T_val (v := (Value.int .i64 x44_.main)) (x_load1 rfl Try.underlying2 rfl (RC.cell (RS.rc hg18_) (Holds.ro_at H28_ 1 rfl) (j := 0 + 0) (u := (Value.int .i64 x44_.main)) (fm_cell RV.len hx45_ (i := 0) rfl))) ?_)
     refine S_list (T_val (v := (Value.int .i64 at_)) (x_move rfl) ?_)
     refine S_list (T_val (v := (Value.bool (decide (x44_.main ≤ at_)))) (x_bin rfl rfl rfl) ?_)
     refine wpList_nil ?_
     refine (X_then (hK43_ _ _ ?_))
     clear hK43_
     refine C_cond (b := decide (x44_.main ≤ at_)) rfl (fun c47_t => ?_) (fun c47_f => ?_)
     ·have c47_tp : x44_.main ≤ at_ := of_decide_eq_true c47_t
      refine C_seq (fun K48_ hK48_ => ?_)
      refine C_reg ?_
      refine S_list (T_val (v := (Value.pointer (some ⟨kb, 0, none⟩))) (x_move rfl) ?_)
      refine S_list (T_val (v := (Value.pointer (some ⟨kb, 0, none⟩))) (by kernel_rfl) ?_)
      refine S_list (T_val (v := (Value.pointer (some ⟨kb, 3, none⟩))) (by kernel_rfl) ?_)
      refine S_list (T_val (v := gv) (x_load1 rfl Try.underlying102 rfl ((Holds.rd H28_ 2 rfl) 3 gv rfl)) ?_)
      refine S_list (T_val (v := (Value.int .i64 ((c : Int) - 1))) (x_move rfl) ?_)
      refine S_list (T_val (v := (Value.pointer (some ⟨(sb gv), so gv + ((((c : Int) - 1).toNat) * 4 + 0), none⟩))) (x_idxRS (v := gv) rfl h1 rfl Try.underlying102 z106 (by omega) (by omega) (by omega : _ = ((c : Int) - 1).toNat) rfl) ?_)
      refine S_list (T_val (v := (Value.pointer (some ⟨(sb gv), so gv + ((((c : Int) - 1).toNat) * 4 + 0), none⟩))) (x_assign rfl) ?_)
      refine wpList_nil ?_
      refine (X_then (hK48_ _ _ ?_))
      clear hK48_
      refine C_ret (X_thenR (X_blkR (X_thenR (X_blkR (X_thenR ?_)))))
      refine R_any (v := (Value.pointer (some ⟨(sb gv), so gv + ((((c : Int) - 1).toNat) * 4 + 0), none⟩))) (run_results1 rfl rfl) ?_
      have H49_ : Holds w27_ (ro R :: cl kb 104 [(Value.slice ka kl kc), (Value.int .i64 m), (Value.int .i64 n), gv] :: F) := (Holds.pkF H28_ [1, 1] 1 :)
      exact ⟨_, _, rfl, (.inr ⟨((c : Int) - 1).toNat, x13_, rfl, rfl, (by rw [iFind, List.length_map, hin, iFind_yes hx14_ (by omega) c19_fp (.inr ⟨_, hx36_, c39_fp⟩) hx45_ c47_tp]), (hx14_)⟩), S30_, H49_⟩
     ·have c47_fp : ¬ (x44_.main ≤ at_) := of_decide_eq_false c47_f
      refine C_skip (X_then (hK42_ _ _ ?_))
      clear hK42_
      refine C_reg ?_
      refine S_list (T_val (v := (Value.int .i64 ((c : Int) - 1))) (x_move rfl) ?_)
      refine S_list (T_val (v := (Value.int .i64 (((c : Int) - 1) - 1))) (x_bin rfl rfl (ib_sub (IntWalk.i64_in _ (by omega)))) ?_)
      refine S_list (T_val (v := (Value.int .i64 (((c : Int) - 1) - 1))) (x_assign rfl) ?_)
      refine wpList_nil ?_
      refine (X_blkN (X_then ?_))
      have H50_ : Holds w27_ (ro R :: cl kb 104 [(Value.slice ka kl kc), (Value.int .i64 m), (Value.int .i64 n), gv] :: F) := (Holds.pkF H28_ [1, 1] 1 :)
      exact ⟨⟨c - 1, t4_v⟩, ⟨_, congrArg (fun e => mkA 67 e []) (ch (ch (ch (ch (ch rfl rfl) rfl) rfl) rfl) (congrArg (Value.int .i64) ((by first | rfl | omega | (simp; done) | (simp; omega)) : ((c : Int) - 1) - 1 = ((c - 1 : Nat) : Int) - 1))), H50_, S30_, (by first | assumption | omega | exact rfl), (by rw [hin, iFind_no hx14_ (by omega) c19_fp (.inr ⟨_, hx36_, c39_fp⟩) hx45_ c47_fp])⟩, by first | omega | (dsimp only; omega) | (simp; omega)⟩
   ·have c33_fp : ¬ ((c : Int) - 1 ≠ ((List.length N) : Int) - 1) := of_decide_eq_false c33_f
    refine C_skip (X_then (hK31_ _ _ ?_))
    clear hK31_
    refine C_seq (fun K51_ hK51_ => ?_)
    refine C_seq (fun K52_ hK52_ => ?_)
    refine C_reg ?_
    refine S_list (T_val (v := (Value.pointer (some ⟨b22_, 3, none⟩))) (by kernel_rfl) ?_)
    refine S_list (T_val (v := x13_.revs) (x_load1 rfl Try.underlying80 rfl ((Holds.rd H28_ 0 rfl) 3 x13_.revs rfl)) ?_)
    obtain ⟨x53_, hx54_, hm55_⟩ := elem_at x13_.l 0 (by omega)
    refine S_list (T_val (v := (Value.pointer (some ⟨(sb x13_.revs), so x13_.revs + (0 + 0), none⟩))) (x_idxRS (v := x13_.revs) rfl hg18_ rfl Try.underlying80 z58 (by omega) (by omega) (by omega : _ = 0) rfl) ?_)
    refine S_list (T_val (v := (Value.pointer (some ⟨(sb x13_.revs), so x13_.revs + (0 + 0), none⟩))) (by kernel_rfl) ?_)
    refine S_list (T_val (v := (Value.int .i64 x53_.main)) (x_load1 rfl Try.underlying2 rfl (RC.cell (RS.rc hg18_) (Holds.ro_at H28_ 1 rfl) (j := 0 + 0) (u := (Value.int .i64 x53_.main)) (fm_cell RV.len hx54_ (i := 0) rfl))) ?_)
    refine S_list (T_val (v := (Value.int .i64 at_)) (x_move rfl) ?_)
    refine S_list (T_val (v := (Value.bool (decide (x53_.main ≤ at_)))) (x_bin rfl rfl rfl) ?_)
    refine wpList_nil ?_
    refine (X_then (hK52_ _ _ ?_))
    clear hK52_
    refine C_cond (b := decide (x53_.main ≤ at_)) rfl (fun c56_t => ?_) (fun c56_f => ?_)
    ·have c56_tp : x53_.main ≤ at_ := of_decide_eq_true c56_t
     refine C_seq (fun K57_ hK57_ => ?_)
     refine C_reg ?_
     refine S_list (T_val (v := (Value.pointer (some ⟨kb, 0, none⟩))) (x_move rfl) ?_)
     refine S_list (T_val (v := (Value.pointer (some ⟨kb, 0, none⟩))) (by kernel_rfl) ?_)
     refine S_list (T_val (v := (Value.pointer (some ⟨kb, 3, none⟩))) (by kernel_rfl) ?_)
     refine S_list (T_val (v := gv) (x_load1 rfl Try.underlying102 rfl ((Holds.rd H28_ 2 rfl) 3 gv rfl)) ?_)
     refine S_list (T_val (v := (Value.int .i64 ((c : Int) - 1))) (x_move rfl) ?_)
     refine S_list (T_val (v := (Value.pointer (some ⟨(sb gv), so gv + ((((c : Int) - 1).toNat) * 4 + 0), none⟩))) (x_idxRS (v := gv) rfl h1 rfl Try.underlying102 z106 (by omega) (by omega) (by omega : _ = ((c : Int) - 1).toNat) rfl) ?_)
     refine S_list (T_val (v := (Value.pointer (some ⟨(sb gv), so gv + ((((c : Int) - 1).toNat) * 4 + 0), none⟩))) (x_assign rfl) ?_)
     refine wpList_nil ?_
     refine (X_then (hK57_ _ _ ?_))
     clear hK57_
     refine C_ret (X_thenR (X_blkR (X_thenR (X_blkR (X_thenR ?_)))))
     refine R_any (v := (Value.pointer (some ⟨(sb gv), so gv + ((((c : Int) - 1).toNat) * 4 + 0), none⟩))) (run_results1 rfl rfl) ?_
     have H58_ : Holds w27_ (ro R :: cl kb 104 [(Value.slice ka kl kc), (Value.int .i64 m), (Value.int .i64 n), gv] :: F) := (Holds.pkF H28_ [1, 1] 1 :)
     exact ⟨_, _, rfl, (.inr ⟨((c : Int) - 1).toNat, x13_, rfl, rfl, (by rw [iFind, List.length_map, hin, iFind_yes hx14_ (by omega) c19_fp (.inl (by omega)) hx54_ c56_tp]), (hx14_)⟩), S30_, H58_⟩
    ·have c56_fp : ¬ (x53_.main ≤ at_) := of_decide_eq_false c56_f
     refine C_skip (X_then (hK51_ _ _ ?_))
     clear hK51_
     refine C_reg ?_
     refine S_list (T_val (v := (Value.int .i64 ((c : Int) - 1))) (x_move rfl) ?_)
     refine S_list (T_val (v := (Value.int .i64 (((c : Int) - 1) - 1))) (x_bin rfl rfl (ib_sub (IntWalk.i64_in _ (by omega)))) ?_)
     refine S_list (T_val (v := (Value.int .i64 (((c : Int) - 1) - 1))) (x_assign rfl) ?_)
     refine wpList_nil ?_
     refine (X_blkN (X_then ?_))
     have H59_ : Holds w27_ (ro R :: cl kb 104 [(Value.slice ka kl kc), (Value.int .i64 m), (Value.int .i64 n), gv] :: F) := (Holds.pkF H28_ [1, 1] 1 :)
     exact ⟨⟨c - 1, t4_v⟩, ⟨_, congrArg (fun e => mkA 67 e []) (ch (ch (ch (ch (ch rfl rfl) rfl) rfl) rfl) (congrArg (Value.int .i64) ((by first | rfl | omega | (simp; done) | (simp; omega)) : ((c : Int) - 1) - 1 = ((c - 1 : Nat) : Int) - 1))), H59_, S30_, (by first | assumption | omega | exact rfl), (by rw [hin, iFind_no hx14_ (by omega) c19_fp (.inl (by omega)) hx54_ c56_fp])⟩, by first | omega | (dsimp only; omega) | (simp; omega)⟩
 ·have c10_fp : ¬ (0 ≤ (c : Int) - 1) := of_decide_eq_false c10_f
  refine C_exit (X_thenX (X_thenX (X_blkHit ?_)))
  refine (X_then (hK4_ _ _ ?_))
  clear hK4_
  refine C_seq (fun K60_ hK60_ => ?_)
  refine C_reg ?_
  refine S_list (T_val (v := (Value.pointer none)) (x_assign rfl) ?_)
  refine wpList_nil ?_
  refine (X_then (hK60_ _ _ ?_))
  clear hK60_
  refine C_ret ?_
  refine R_any (v := (Value.pointer none)) (run_results1 rfl rfl) ?_
  exact ⟨_, _, rfl, (.inl ⟨rfl, rfl, (by rw [iFind, List.length_map, hin, show c = 0 by omega]; rfl)⟩), S7_, H6_⟩
end Go.Proofs.Ytiblemgccgbhoaa
