/- Records that are refused: the walk. -/
import Derived.Test.YtgeggiebefonhaaWcC0
set_option linter.unusedVariables false
set_option linter.unusedSimpArgs false
namespace Go.Proofs.Ytgeggiebefonhaa
open Go Go.RowKit Gw

def wnone : WR := ⟨2, false, 0, false, ByteArray.empty, false⟩
def wput (M : List WR) (i : Nat) : List WR := M.take i ++ [wnone] ++ M.drop i
theorem wput_cells (M : List WR) (i : Nat) : (M.flatMap WR.cells).take (i * 6) ++ wnone.cells ++ (M.flatMap WR.cells).drop (i * 6) = (wput M i).flatMap WR.cells := by
  have h : ∀ (M : List WR) (i : Nat), (M.flatMap WR.cells).take (i * 6) = (M.take i).flatMap WR.cells ∧ (M.flatMap WR.cells).drop (i * 6) = (M.drop i).flatMap WR.cells := by
    intro M
    induction M with
    | nil => intro i; simp
    | cons a M ih =>
      intro i
      cases i with
      | zero => simp
      | succ i =>
        have hl : a.cells.length = 6 := WR.len a
        obtain ⟨h1, h2⟩ := ih i
        rw [List.flatMap_cons, show (i + 1) * 6 = a.cells.length + i * 6 by omega, List.take_append, List.drop_append, List.take_of_length_le (by omega), List.drop_eq_nil_of_le (by omega), show a.cells.length + i * 6 - a.cells.length = i * 6 by omega, h1, h2]
        simp
  rw [(h M i).1, (h M i).2]; simp [wput]
theorem wput_len (M : List WR) {i : Nat} (h : i ≤ M.length) : (wput M i).length = M.length + 1 := by
  simp only [wput, List.length_append, List.length_take, List.length_drop, List.length_cons, List.length_nil]; omega
theorem wput_good (M : List WR) (i : Nat) : wgood (wput M i) = wgood M := by
  unfold wgood wput
  rw [List.filter_append, List.filter_append]
  have : List.filter WR.hasType [wnone] = [] := rfl
  rw [this, List.append_nil, ← List.filter_append, List.take_append_drop]
theorem wput_bad (M : List WR) (i : Nat) : wbad (wput M i) = wbad M + 1 := by
  unfold wbad wput
  rw [List.filter_append, List.filter_append, List.length_append, List.length_append]
  have h1 : (List.filter (fun x => !x.hasType) [wnone]).length = 1 := rfl
  have h2 := congrArg (fun l => (List.filter (fun x : WR => !x.hasType) l).length) (List.take_append_drop i M)
  simp only [List.filter_append, List.length_append] at h2
  omega
theorem wput_all {M : List WR} {i : Nat} {p : WR → Prop} (h : ∀ x ∈ M, p x) (h0 : p wnone) : ∀ x ∈ wput M i, p x := by
  intro x hx
  simp only [wput, List.mem_append, List.mem_singleton] at hx
  rcases hx with (hx | rfl) | hx
  · exact h x (List.mem_of_mem_take hx)
  · exact h0
  · exact h x (List.mem_of_mem_drop hx)
theorem wgood_all {L : List WR} (h : ∀ x ∈ L, Good x) : wgood L = L := List.filter_eq_self.2 fun x hx => (h x hx).ty
theorem wbad_all {L : List WR} (h : ∀ x ∈ L, Good x) : wbad L = 0 := by
  unfold wbad
  rw [List.filter_eq_nil_iff.2 fun x hx => by simp [(h x hx).ty]]; rfl
theorem flatMap_len6 (M : List WR) : (M.flatMap WR.cells).length = M.length * 6 := by
  induction M with
  | nil => rfl
  | cons a M ih => rw [List.flatMap_cons, List.length_append, ih, WR.len, List.length_cons]; omega

set_option maxHeartbeats 400000 in
theorem fnWalRefuses (R : HP) (prev off : Int) (rv av : Value) (L : List WR) (A : List Int) (hL : RS R 6 rv L.length (L.flatMap WR.cells)) (hA : RS R 1 av A.length (A.map (Value.int .i64))) (hAb : ∀ x ∈ A, x ≤ 9223372036854775807) :
    Tri Try.prog 6 #[(Value.int .u32 prev), (Value.int .i64 off), rv, av] R [] (fun v__ post__ => v__ = (Value.bool true) ∧ post__ = []) := by
  refine Tri.into (n := 97) (al := [(Value.int .u32 prev), (Value.int .i64 off), rv, av]) Try.func6 rfl Try.ntmps6 rfl rfl fun w F H => ?_
  replace H : Holds w (ro R :: F) := H
  refine C_seq (fun K1_ hK1_ => ?_)
  refine C_reg ?_
  refine S_list (T_val (v := (Value.bool false)) (x_assign rfl) ?_)
  refine wpList_nil ?_
  refine (X_then (hK1_ _ _ ?_))
  clear hK1_
  refine C_seq (fun K2_ hK2_ => ?_)
  refine C_seq (fun K3_ hK3_ => ?_)
  refine C_reg ?_
  refine S_list (T_val (v := rv) (x_move rfl) ?_)
  refine S_list (T_call (al := [rv]) (pre := []) (F := F) rfl rfl cb17 (lFits R rv L hL) H ?_)
  rintro v4_ p10_ w7_ ⟨b5_, rfl, rfl, he6_⟩ S9_ H8_
  replace H8_ : Holds w7_ (ro R :: F) := H8_
  have S11_ := Same.trans (Same.refl w) S9_
  refine S_list (T_val (v := (Value.bool (!b5_))) (x_not rfl) ?_)
  refine S_list (T_val (v := (Value.bool (!b5_))) (x_move rfl) ?_)
  rcases Bool.eq_false_or_eq_true (!b5_) with c12_t | c12_f
  · skip
    refine S_no (j := 3) (dj := 21) (b := true) rfl rfl (congrArg Value.bool c12_t) (by decide) ?_
    refine S_no (j := 3) (dj := 21) (b := true) rfl rfl (congrArg Value.bool c12_t) (by decide) ?_
    refine S_no (j := 3) (dj := 21) (b := true) rfl rfl (congrArg Value.bool c12_t) (by decide) ?_
    refine S_list (T_pickT (v := (Value.bool true)) (congrArg Value.bool c12_t) rfl ?_)
    refine wpList_nil ?_
    refine (X_then (hK3_ _ _ ?_))
    clear hK3_
    refine C_condT rfl ?_
    refine C_seq (fun K13_ hK13_ => ?_)
    refine C_reg ?_
    refine S_list (T_val (v := (Value.bool true)) (x_assign rfl) ?_)
    refine wpList_nil ?_
    refine (X_then (hK13_ _ _ ?_))
    clear hK13_
    refine C_ret (X_thenR ?_)
    refine R_any (v := (Value.bool true)) (run_results1 rfl rfl) ?_
    exact ⟨_, [], rfl, ⟨rfl, rfl⟩, S11_, H8_⟩
  · skip
    refine S_yes (j := 3) (dj := 21) (b := false) rfl rfl (congrArg Value.bool c12_f) (T_val (v := av) (x_move rfl) ?_)
    refine S_yes (j := 3) (dj := 21) (b := false) rfl rfl (congrArg Value.bool c12_f) (T_val (v := (Value.int .i64 (A.length : Int))) (x_lenRS rfl hA Try.underlying60) ?_)
    refine S_yes (j := 3) (dj := 21) (b := false) rfl rfl (congrArg Value.bool c12_f) (T_val (v := (Value.bool (decide (2147483647 < (A.length : Int))))) (x_bin rfl rfl rfl) ?_)
    refine S_list (T_pickF (v := (Value.bool (decide (2147483647 < (A.length : Int))))) (congrArg Value.bool c12_f) rfl ?_)
    refine wpList_nil ?_
    refine (X_then (hK3_ _ _ ?_))
    clear hK3_
    refine C_cond (b := decide (2147483647 < (A.length : Int))) rfl (fun c14_t => ?_) (fun c14_f => ?_)
    · have c14_tp : 2147483647 < (A.length : Int) := of_decide_eq_true c14_t
      refine C_seq (fun K15_ hK15_ => ?_)
      refine C_reg ?_
      refine S_list (T_val (v := (Value.bool true)) (x_assign rfl) ?_)
      refine wpList_nil ?_
      refine (X_then (hK15_ _ _ ?_))
      clear hK15_
      refine C_ret (X_thenR ?_)
      refine R_any (v := (Value.bool true)) (run_results1 rfl rfl) ?_
      exact ⟨_, [], rfl, ⟨rfl, rfl⟩, S11_, H8_⟩
    · have c14_fp : ¬ (2147483647 < (A.length : Int)) := of_decide_eq_false c14_f
      refine C_skip (X_then (hK2_ _ _ ?_))
      clear hK2_
      refine C_seq (fun K16_ hK16_ => ?_)
      refine C_seq (fun K17_ hK17_ => ?_)
      refine C_reg ?_
      refine S_list (T_val (v := rv) (x_move rfl) ?_)
      refine S_list (T_val (v := (Value.int .i64 off)) (x_move rfl) ?_)
      refine S_list (T_call (al := [rv, (Value.int .i64 off)]) (pre := []) (F := F) rfl rfl cb18 (lGood R rv L off hL) H8_ ?_)
      rintro v18_ p24_ w21_ ⟨b19_, rfl, rfl, he20_⟩ S23_ H22_
      replace H22_ : Holds w21_ (ro R :: F) := H22_
      have S25_ := Same.trans S11_ S23_
      refine S_list (T_val (v := (Value.bool (!b19_))) (x_not rfl) ?_)
      refine S_list (T_val (v := (Value.bool (!b19_))) (x_move rfl) ?_)
      rcases Bool.eq_false_or_eq_true (!b19_) with c26_t | c26_f
      · skip
        refine S_no (j := 4) (dj := 30) (b := true) rfl rfl (congrArg Value.bool c26_t) (by decide) ?_
        refine S_no (j := 4) (dj := 30) (b := true) rfl rfl (congrArg Value.bool c26_t) (by decide) ?_
        refine S_no (j := 4) (dj := 30) (b := true) rfl rfl (congrArg Value.bool c26_t) (by decide) ?_
        refine S_list (T_pickT (v := (Value.bool true)) (congrArg Value.bool c26_t) rfl ?_)
        refine wpList_nil ?_
        refine (X_then (hK17_ _ _ ?_))
        clear hK17_
        refine C_condT rfl ?_
        refine C_seq (fun K27_ hK27_ => ?_)
        refine C_reg ?_
        refine S_list (T_val (v := (Value.bool true)) (x_assign rfl) ?_)
        refine wpList_nil ?_
        refine (X_then (hK27_ _ _ ?_))
        clear hK27_
        refine C_ret (X_thenR ?_)
        refine R_any (v := (Value.bool true)) (run_results1 rfl rfl) ?_
        exact ⟨_, [], rfl, ⟨rfl, rfl⟩, S25_, H22_⟩
      · skip
        refine S_yes (j := 4) (dj := 30) (b := false) rfl rfl (congrArg Value.bool c26_f) (T_val (v := av) (x_move rfl) ?_)
        refine S_yes (j := 4) (dj := 30) (b := false) rfl rfl (congrArg Value.bool c26_f) (T_val (v := (Value.int .i64 (A.length : Int))) (x_lenRS rfl hA Try.underlying60) ?_)
        refine S_yes (j := 4) (dj := 30) (b := false) rfl rfl (congrArg Value.bool c26_f) (T_val (v := (Value.bool (decide (20 < (A.length : Int))))) (x_bin rfl rfl rfl) ?_)
        refine S_list (T_pickF (v := (Value.bool (decide (20 < (A.length : Int))))) (congrArg Value.bool c26_f) rfl ?_)
        refine wpList_nil ?_
        refine (X_then (hK17_ _ _ ?_))
        clear hK17_
        refine C_cond (b := decide (20 < (A.length : Int))) rfl (fun c28_t => ?_) (fun c28_f => ?_)
        · have c28_tp : 20 < (A.length : Int) := of_decide_eq_true c28_t
          refine C_seq (fun K29_ hK29_ => ?_)
          refine C_reg ?_
          refine S_list (T_val (v := (Value.bool true)) (x_assign rfl) ?_)
          refine wpList_nil ?_
          refine (X_then (hK29_ _ _ ?_))
          clear hK29_
          refine C_ret (X_thenR ?_)
          refine R_any (v := (Value.bool true)) (run_results1 rfl rfl) ?_
          exact ⟨_, [], rfl, ⟨rfl, rfl⟩, S25_, H22_⟩
        · have c28_fp : ¬ (20 < (A.length : Int)) := of_decide_eq_false c28_f
          refine C_skip (X_then (hK16_ _ _ ?_))
          clear hK16_
          refine C_seq (fun K30_ hK30_ => ?_)
          refine C_reg ?_
          refine S_list (T_val (v := rv) (x_move rfl) ?_)
          obtain ⟨hl60, ho0, ho1, hG⟩ := he20_ (by simp_all)
          obtain ⟨offN, hoff⟩ : ∃ m : Nat, off = m := ⟨off.toNat, by omega⟩
          refine S_list (T_call (al := [rv]) (pre := []) (F := F) rfl rfl cb22 (wClone R rv L hL (by first | assumption | omega)) H22_ ?_)
          rintro v31_ p35_ w32_ ⟨_, rfl, rfl⟩ S34_ H33_
          replace H33_ : Holds w32_ (ro R :: sl 63 6 v31_ (List.length L) (L.flatMap WR.cells) :: F) := H33_
          have S36_ := Same.trans S25_ S34_
          refine S_list (T_val (v := v31_) (x_assign rfl) ?_)
          refine wpList_nil ?_
          refine (X_then (hK30_ _ _ ?_))
          clear hK30_
          refine C_seq (fun K37_ hK37_ => ?_)
          refine C_seq (fun K38_ hK38_ => ?_)
          refine C_reg ?_
          refine S_list (T_val (v := av) (x_move rfl) ?_)
          refine S_list (T_val (v := (Value.int .i64 (A.length : Int))) (x_lenRS rfl hA Try.underlying60) ?_)
          refine S_list (T_val (v := (Value.int .i64 0)) (x_move rfl) ?_)
          refine wpList_nil ?_
          refine (X_then (hK38_ _ _ ?_))
          clear hK38_
          refine C_block ?_
          refine C_loop (γ := Nat × Value × (List WR) × Bool) (fun x a w1 => match x with | ⟨k, v, M, e8_v⟩ => ∃ h : Env, a = mkA 97 (upd (upd (upd (upd (upd (upd (upd (upd (upd h 0 (Value.int .u32 prev)) 1 (Value.int .i64 off)) 2 rv) 3 av) 8 (Value.bool e8_v)) 9 v) 37 av) 38 (Value.int .i64 (A.length : Int))) 39 (Value.int .i64 (k : Int))) [] ∧ Holds w1 (ro R :: sl 63 6 v (List.length M) (M.flatMap WR.cells) :: F) ∧ Same w w1 ∧ (k ≤ A.length) ∧ (M.length = L.length + k) ∧ (wgood M = L) ∧ (wbad M = k) ∧ (∀ x ∈ M, x.hasType = true → Good x) ∧ (∀ x ∈ M, x.data.size ≤ 5000)) (fun x => match x with | ⟨k, v, M, e8_v⟩ => A.length - k) (⟨0, v31_, L, false⟩) ⟨_, congrArg (fun e => mkA 97 e []) (ch (ch (ch (ch (ch (ch (ch (ch (ch rfl rfl) rfl) rfl) rfl) rfl) rfl) rfl) rfl) (congrArg (Value.int .i64) ((by first | rfl | omega | (simp; done) | (simp; omega)) : 0 = (0 : Int)))), H33_, S36_, (by first | assumption | omega | exact rfl), (rfl), (wgood_all hG), (wbad_all hG), (fun x hx _ => hG x hx), (fun x hx => (hG x hx).len)⟩ ?_
          rintro ⟨k, v, M, e8_v⟩ _ w39_ ⟨h, rfl, H40_, S41_, hk, hMl, hMg, hMb, hMG, hMS⟩
          refine C_seq (fun K42_ hK42_ => ?_)
          refine C_reg ?_
          refine S_list (T_val (v := (Value.bool (decide ((k : Int) < (A.length : Int))))) (x_bin rfl rfl rfl) ?_)
          refine wpList_nil ?_
          refine (X_then (hK42_ _ _ ?_))
          clear hK42_
          refine C_seq (fun K43_ hK43_ => ?_)
          refine C_cond (b := decide ((k : Int) < (A.length : Int))) rfl (fun c44_t => ?_) (fun c44_f => ?_)
          · have c44_tp : (k : Int) < (A.length : Int) := of_decide_eq_true c44_t
            refine C_skip (X_then (hK43_ _ _ ?_))
            clear hK43_
            refine C_seq (fun K45_ hK45_ => ?_)
            refine C_block ?_
            refine C_seq (fun K46_ hK46_ => ?_)
            refine C_reg ?_
            obtain ⟨x47_, hx48_, hm49_⟩ := elem_at A k (by omega)
            have hp50_ := hAb x47_ hm49_
            refine S_list (T_val (v := (Value.pointer (some ⟨(sb av), so av + k, none⟩))) (x_idxRS (v := av) rfl hA rfl Try.underlying60 z3 (by omega) (by omega) (by omega : _ = k) (by rw [Nat.mul_one])) ?_)
            refine S_list (T_val (v := (Value.int .i64 x47_)) (x_load1 rfl Try.underlying3 rfl (RC.cell (RS.rc hA) (Holds.ro_at H40_ 0 rfl) (j := k) (u := (Value.int .i64 x47_)) ((map_at hx48_)))) ?_)
            refine S_list (T_val (v := (Value.int .i64 x47_)) (x_assign rfl) ?_)
            refine wpList_nil ?_
            refine (X_then (hK46_ _ _ ?_))
            clear hK46_
            refine C_seq (fun K51_ hK51_ => ?_)
            refine C_seq (fun K52_ hK52_ => ?_)
            refine C_reg ?_
            refine S_list (T_val (v := (Value.int .i64 x47_)) (x_move rfl) ?_)
            refine S_list (T_val (v := (Value.bool (decide (x47_ < 0)))) (x_bin rfl rfl rfl) ?_)
            refine wpList_nil ?_
            refine (X_then (hK52_ _ _ ?_))
            clear hK52_
            refine C_cond (b := decide (x47_ < 0)) rfl (fun c53_t => ?_) (fun c53_f => ?_)
            · have c53_tp : x47_ < 0 := of_decide_eq_true c53_t
              refine C_seq (fun K54_ hK54_ => ?_)
              refine C_reg ?_
              refine S_list (T_val (v := (Value.bool true)) (x_assign rfl) ?_)
              refine wpList_nil ?_
              refine (X_then (hK54_ _ _ ?_))
              clear hK54_
              refine C_ret (X_thenR (X_blkR (X_thenR (X_thenR (X_blkR (X_thenR ?_))))))
              refine R_any (v := (Value.bool true)) (run_results1 rfl rfl) ?_
              have H55_ : Holds w39_ (ro R :: F) := (Holds.erase (Holds.bring H40_ 0 rfl) 1)
              exact ⟨_, [], rfl, ⟨rfl, rfl⟩, S41_, H55_⟩
            · have c53_fp : ¬ (x47_ < 0) := of_decide_eq_false c53_f
              refine C_skip (X_then (hK51_ _ _ ?_))
              clear hK51_
              refine C_reg ?_
              refine S_list (T_val (v := v) (x_move rfl) ?_)
              refine S_list (T_val (v := (Value.int .i64 x47_)) (x_move rfl) ?_)
              refine S_list (T_val (v := v) (x_move rfl) ?_)
              refine S_list (T_val (v := (Value.int .i64 ((List.length M) : Int))) (x_lenSl rfl H40_ 1 rfl Try.underlying49) ?_)
              refine S_list (T_val (v := (Value.int .i64 (((List.length M) : Int) + 1))) (x_bin rfl rfl (ib_add (IntWalk.i64_in _ (by omega)))) ?_)
              refine S_list (T_val (v := (Value.int .i64 (((x47_).toNat % (M.length + 1) : Nat) : Int))) (x_bin rfl rfl (ib_remN (x := (x47_).toNat) (y := M.length + 1) (by omega) (by omega) (by omega) (by omega) rfl)) ?_)
              refine S_list (T_val (v := (Value.agg #[(Value.int .i64 2), (Value.bool false), (Value.int .u32 0), (Value.bool false), (Value.string ByteArray.empty), (Value.bool false)])) (by kernel_rfl) ?_)
              refine S_list (T_new (obj := .cells #[(Value.int .i64 2), (Value.bool false), (Value.int .u32 0), (Value.bool false), (Value.string ByteArray.empty), (Value.bool false)] 63) (f := fun b__ => .slice (some ⟨b__, 0, none⟩) 1 1) (A := fun b__ => clf b__ 63 wnone.cells) (by kernel_rfl) (fun l h => h.allocOb _) H40_ ?_)
              intro b56_ w57_ S59_ H58_
              replace H58_ : Holds w57_ (clf b56_ 63 wnone.cells :: ro R :: sl 63 6 v (List.length M) (M.flatMap WR.cells) :: F) := H58_
              have S60_ := Same.trans S41_ S59_
              have H61_ : Holds w57_ (clf b56_ 63 wnone.cells :: ro R :: sl 63 6 v M.length (M.flatMap WR.cells) :: F) := cast2 (P := fun (c__ : List Value) (k__ : Nat) => Holds w57_ (clf b56_ 63 wnone.cells :: ro R :: sl 63 6 v k__ c__ :: F)) (rfl : M.flatMap WR.cells = (M.flatMap WR.cells)) ((by first | rfl | omega | (simp; done) | (simp; omega)) : (List.length M) = M.length) H58_
              have H63_ : Holds w57_ (ro R :: sl 63 6 v M.length (M.flatMap WR.cells) :: clf b56_ 63 wnone.cells :: F) := (Holds.bring (Holds.bring (Holds.bring H61_ 0 rfl) 2 rfl) 2 rfl)
              refine S_list (T_call (al := [v, (Value.int .i64 (((x47_).toNat % (M.length + 1) : Nat) : Int)), (Value.slice (some ⟨b56_, 0, none⟩) 1 1)]) (pre := [sl 63 6 v M.length (M.flatMap WR.cells), clf b56_ 63 wnone.cells]) (F := F) rfl rfl cb23 (wIns R v b56_ M.length ((x47_).toNat % (M.length + 1)) (M.flatMap WR.cells) wnone.cells (flatMap_len6 M) (Nat.lt_succ_iff.1 (Nat.mod_lt _ (by omega))) (rfl) (by omega) (ones_WR M) (ones_WRc wnone)) H63_ ?_)
              rintro v62_ p67_ w64_ ⟨_, rfl, rfl⟩ S66_ H65_
              replace H65_ : Holds w64_ (ro R :: sl 63 6 v62_ (M.length + 1) (List.take (((x47_).toNat % (M.length + 1)) * 6) (M.flatMap WR.cells) ++ wnone.cells ++ List.drop (((x47_).toNat % (M.length + 1)) * 6) (M.flatMap WR.cells)) :: F) := H65_
              have S68_ := Same.trans S60_ S66_
              refine S_list (T_val (v := v62_) (x_assign rfl) ?_)
              refine wpList_nil ?_
              refine (X_blkN (X_then (hK45_ _ _ ?_)))
              clear hK45_
              refine C_reg ?_
              refine S_list (T_val (v := (Value.int .i64 ((k : Int) + 1))) (x_bin rfl rfl (ib_add (IntWalk.i64_in _ (by omega)))) ?_)
              refine S_list (T_val (v := (Value.int .i64 ((k : Int) + 1))) (x_move rfl) ?_)
              refine wpList_nil ?_
              refine (X_then ?_)
              have H69_ : Holds w64_ (ro R :: sl 63 6 v62_ (List.length (wput M ((x47_).toNat % (M.length + 1)))) ((wput M ((x47_).toNat % (M.length + 1))).flatMap WR.cells) :: F) := cast2 (P := fun (c__ : List Value) (k__ : Nat) => Holds w64_ (ro R :: sl 63 6 v62_ k__ c__ :: F)) ((wput_cells _ _) : List.take (((x47_).toNat % (M.length + 1)) * 6) (M.flatMap WR.cells) ++ wnone.cells ++ List.drop (((x47_).toNat % (M.length + 1)) * 6) (M.flatMap WR.cells) = (wput M ((x47_).toNat % (M.length + 1))).flatMap WR.cells) ((wput_len M (Nat.lt_succ_iff.1 (Nat.mod_lt _ (by omega)))).symm : (M.length + 1) = (List.length (wput M ((x47_).toNat % (M.length + 1))))) H65_
              exact ⟨⟨k + 1, v62_, (wput M ((x47_).toNat % (M.length + 1))), e8_v⟩, ⟨_, congrArg (fun e => mkA 97 e []) (ch (ch (ch (ch (ch (ch (ch (ch (ch rfl rfl) rfl) rfl) rfl) rfl) rfl) rfl) rfl) (congrArg (Value.int .i64) ((by first | rfl | omega | (simp; done) | (simp; omega)) : (k : Int) + 1 = ((k + 1 : Nat) : Int)))), H69_, S68_, (by first | assumption | omega | exact rfl), (by rw [wput_len M (Nat.lt_succ_iff.1 (Nat.mod_lt _ (by omega)))]; omega), (by rw [wput_good, hMg]), (by rw [wput_bad, hMb]), (wput_all hMG (fun h => by cases h)), (wput_all hMS (Nat.zero_le _))⟩, by first | omega | (dsimp only; omega) | (simp; omega)⟩
          · have c44_fp : ¬ ((k : Int) < (A.length : Int)) := of_decide_eq_false c44_f
            refine C_exit (X_thenX (X_thenX (X_blkHit ?_)))
            refine (X_then (hK37_ _ _ ?_))
            clear hK37_
            refine C_seq (fun K70_ hK70_ => ?_)
            refine C_reg ?_
            refine S_list (T_val (v := (Value.int .u32 prev)) (x_move rfl) ?_)
            refine S_list (T_val (v := (Value.int .i64 off)) (x_move rfl) ?_)
            refine S_list (T_val (v := v) (x_move rfl) ?_)
            obtain ⟨R71_, hs72_, ⟨R73_, ha74_, hs75_⟩, H76_⟩ := Holds.gift H40_
            replace H76_ : Holds w39_ (ro R71_ :: F) := H76_
            have hr77_ : RS R71_ 6 v (List.length M) (M.flatMap WR.cells) := (sl_RS ha74_ (Sub.rfl' _)).mono hs75_
            refine S_list (T_call (al := [(Value.int .u32 prev), (Value.int .i64 (offN : Int)), v]) (pre := []) (F := F) rfl (lcons rfl (lcons (congrArg (Value.int .i64) (hoff : off = (offN : Int))) rfl)) cb19 (wWalWrite2 R71_ prev offN v M (RS.set_ hr77_ rfl (by first | rfl | omega | (simp; done) | (simp; omega))) (by first | assumption | omega) (by first | assumption | omega) (by first | assumption | omega) (by first | assumption | omega)) H76_ ?_)
            rintro v78_ p85_ w82_ ⟨v79_, os80_, rfl, rfl, he81_⟩ S84_ H83_
            replace H83_ : Holds w82_ (ro R71_ :: sl 5 1 v79_ (List.length os80_) (bytesV os80_) :: F) := H83_
            have S86_ := Same.trans S41_ S84_
            have hol1_ := flat_len (wfs_small (prev := prev) hG)
            rw [wfs_len] at hol1_
            refine S_list (T_val (v := (Value.tuple #[v79_, (Value.int .i64 (wbad M : Int))])) (x_move rfl) ?_)
            refine S_list (T_val (v := v79_) (by kernel_rfl) ?_)
            refine S_list (T_val (v := (Value.int .i64 (wbad M : Int))) (by kernel_rfl) ?_)
            refine S_list (T_val (v := v79_) (x_assign rfl) ?_)
            refine S_list (T_val (v := (Value.int .i64 (wbad M : Int))) (x_assign rfl) ?_)
            refine wpList_nil ?_
            refine (X_then (hK70_ _ _ ?_))
            clear hK70_
            refine C_seq (fun K87_ hK87_ => ?_)
            refine C_reg ?_
            refine S_list (T_val (v := (Value.int .u32 prev)) (x_move rfl) ?_)
            refine S_list (T_val (v := (Value.int .i64 off)) (x_move rfl) ?_)
            refine S_list (T_val (v := rv) (x_move rfl) ?_)
            refine S_list (T_call (al := [(Value.int .u32 prev), (Value.int .i64 (offN : Int)), rv]) (pre := []) (F := sl 5 1 v79_ (List.length os80_) (bytesV os80_) :: F) rfl (lcons rfl (lcons (congrArg (Value.int .i64) (hoff : off = (offN : Int))) rfl)) cb19 (wWalWrite R71_ prev offN rv L (RS.mono hL hs72_) (by first | assumption | omega) (by first | assumption | omega) (by first | assumption | omega)) H83_ ?_)
            rintro v88_ p95_ w92_ ⟨v89_, os90_, rfl, rfl, he91_⟩ S94_ H93_
            replace H93_ : Holds w92_ (ro R71_ :: sl 5 1 v89_ (List.length os90_) (bytesV os90_) :: sl 5 1 v79_ (List.length os80_) (bytesV os80_) :: F) := H93_
            have S96_ := Same.trans S86_ S94_
            have hol2_ := flat_len (wfs_small (prev := prev) hG)
            rw [wfs_len] at hol2_
            refine S_list (T_val (v := (Value.tuple #[v89_, (Value.int .i64 0)])) (x_move rfl) ?_)
            refine S_list (T_val (v := v89_) (by kernel_rfl) ?_)
            refine S_list (T_val (v := (Value.int .i64 0)) (by kernel_rfl) ?_)
            refine S_list (T_val (v := v89_) (x_assign rfl) ?_)
            refine S_list (T_val (v := (Value.int .i64 0)) (x_assign rfl) ?_)
            refine wpList_nil ?_
            refine (X_then (hK87_ _ _ ?_))
            clear hK87_
            refine C_seq (fun K97_ hK97_ => ?_)
            refine C_reg ?_
            refine S_list (T_val (v := (Value.int .u32 prev)) (x_move rfl) ?_)
            refine S_list (T_val (v := rv) (x_move rfl) ?_)
            refine S_list (T_call (al := [(Value.int .u32 prev), rv]) (pre := []) (F := sl 5 1 v89_ (List.length os90_) (bytesV os90_) :: sl 5 1 v79_ (List.length os80_) (bytesV os80_) :: F) rfl rfl cb20 (sBytes R71_ prev rv L (RS.mono hL hs72_) (by first | assumption | omega) (by first | assumption | omega)) H93_ ?_)
            rintro v98_ p104_ w101_ ⟨v199_, v2100_, rfl, rfl⟩ S103_ H102_
            replace H102_ : Holds w101_ (ro R71_ :: sl 9 1 v199_ ((wfs prev L).length) (((wfs prev L).map strN).map Value.string) :: sl 5 1 v89_ (List.length os90_) (bytesV os90_) :: sl 5 1 v79_ (List.length os80_) (bytesV os80_) :: F) := H102_
            have S105_ := Same.trans S96_ S103_
            refine S_list (T_val (v := (Value.tuple #[v199_, v2100_])) (x_move rfl) ?_)
            refine S_list (T_val (v := v199_) (by kernel_rfl) ?_)
            refine S_list (T_val (v := v2100_) (by kernel_rfl) ?_)
            refine S_list (T_val (v := v199_) (x_assign rfl) ?_)
            refine S_list (T_val (v := v2100_) (x_assign rfl) ?_)
            refine wpList_nil ?_
            refine (X_then (hK97_ _ _ ?_))
            clear hK97_
            refine C_seq (fun K106_ hK106_ => ?_)
            refine A_start (S := fun w => SlRd v89_ (bytesV os90_) w ∧ SlRd v79_ (bytesV os80_) w ∧ Sub R71_ (hp w)) (N := 23) foll rfl rfl ?_
            have H107_ : Holds w101_.drew (ro R71_ :: sl 9 1 v199_ ((wfs prev L).length) (((wfs prev L).map strN).map Value.string) :: sl 5 1 v89_ (List.length os90_) (bytesV os90_) :: sl 5 1 v79_ (List.length os80_) (bytesV os80_) :: F) := H102_
            have hq108_ := And.intro (Holds.slrd H107_ 2 rfl) (And.intro (Holds.slrd H107_ 3 rfl) ((Holds.ro_at H107_ 0 rfl)))
            refine A_tk 0 (v := (Value.int .i64 (wbad M : Int))) rfl (by kernel_rfl) (fun w hS => x_move rfl) hq108_ ?_
            refine A_tk 1 (v := av) rfl (by kernel_rfl) (fun w hS => x_move rfl) hq108_ ?_
            refine A_tk 2 (v := (Value.int .i64 (A.length : Int))) rfl (by kernel_rfl) (fun w hS => x_lenRS rfl (RS.mono hA hs72_) Try.underlying60) hq108_ ?_
            refine A_tk 3 (v := (Value.bool (decide ((wbad M : Int) = (A.length : Int))))) rfl (by kernel_rfl) (fun w hS => x_bin rfl rfl rfl) hq108_ ?_
            refine A_tk 4 (v := (Value.bool (decide ((wbad M : Int) = (A.length : Int))))) rfl (by kernel_rfl) (fun w hS => x_move rfl) hq108_ ?_
            rcases Bool.eq_false_or_eq_true (decide ((wbad M : Int) = (A.length : Int))) with c109_t | c109_f
            · have c109_tp : (wbad M : Int) = (A.length : Int) := of_decide_eq_true c109_t
              refine A_tkY 5 (j := 4) (dj := 79) (b := true) (v := (Value.int .i64 0)) rfl (by kernel_rfl) rfl rfl (congrArg Value.bool c109_t) (fun w hS => x_move rfl) hq108_ ?_
              refine A_tkY 6 (j := 4) (dj := 79) (b := true) (v := (Value.bool true)) rfl (by kernel_rfl) rfl rfl (congrArg Value.bool c109_t) (fun w hS => x_bin rfl rfl rfl) hq108_ ?_
              refine A_tk 7 (v := (Value.bool true)) rfl (by kernel_rfl) (fun w hS => (x_pickT (congrArg Value.bool c109_t) rfl)) hq108_ ?_
              refine A_tk 8 (v := (Value.bool true)) rfl (by kernel_rfl) (fun w hS => x_move rfl) hq108_ ?_
              refine A_tkY 9 (j := 8) (dj := 83) (b := true) (v := v79_) rfl (by kernel_rfl) rfl rfl rfl (fun w hS => x_move rfl) hq108_ ?_
              refine A_tkY 11 (j := 8) (dj := 83) (b := true) (v := v89_) rfl (by kernel_rfl) rfl rfl rfl (fun w hS => x_move rfl) hq108_ ?_
              refine A_ready (i := 10) (rs := [12]) (by kernel_rfl) ?_
              refine AllR.cons ?_ ?_
              · skip
                refine A_opYes (ls' := #[true, true, true, true, true, true, true, true, true, true, true, true, false, false, false, false, false, false, false, false, false, false, false]) (j := 8) (dj := 83) (b := true) rfl (by kernel_rfl) rfl rfl rfl (T_val (v := (Value.string (strN os80_))) (x_b2sSl rfl H107_ 3 rfl Try.underlying43 Try.underlying5 Try.underlying9) ?_)
                refine ⟨⟨Holds.slrd H107_ 2 rfl, Holds.slrd H107_ 3 rfl, (Holds.ro_at H107_ 0 rfl)⟩, ?_⟩
                refine A_ready (i := 12) (rs := []) (by kernel_rfl) ?_
                refine AllR.cons ?_ AllR.nil
                refine A_opYes (ls' := #[true, true, true, true, true, true, true, true, true, true, true, true, true, false, false, false, false, false, false, false, false, false, false]) (j := 8) (dj := 83) (b := true) rfl (by kernel_rfl) rfl rfl rfl (T_val (v := (Value.string (strN os90_))) (x_b2sSl rfl H107_ 2 rfl Try.underlying43 Try.underlying5 Try.underlying9) ?_)
                refine ⟨⟨Holds.slrd H107_ 2 rfl, Holds.slrd H107_ 3 rfl, (Holds.ro_at H107_ 0 rfl)⟩, ?_⟩
                refine A_tkY 13 (j := 8) (dj := 83) (b := true) (v := (Value.bool ((strN os80_).toList == (strN os90_).toList))) rfl (by kernel_rfl) rfl rfl rfl (fun w hS => x_str rfl rfl rfl (by decide)) hq108_ ?_
                refine A_tk 14 (v := (Value.bool ((strN os80_).toList == (strN os90_).toList))) rfl (by kernel_rfl) (fun w hS => (x_pickT rfl rfl)) hq108_ ?_
                refine A_tk 15 (v := (Value.bool ((strN os80_).toList == (strN os90_).toList))) rfl (by kernel_rfl) (fun w hS => x_move rfl) hq108_ ?_
                rcases Bool.eq_false_or_eq_true ((strN os80_).toList == (strN os90_).toList) with c110_t | c110_f
                · skip
                  refine A_tkY 16 (j := 15) (dj := 90) (b := true) (v := v89_) rfl (by kernel_rfl) rfl rfl (congrArg Value.bool c110_t) (fun w hS => x_move rfl) hq108_ ?_
                  refine A_tkY 18 (j := 15) (dj := 90) (b := true) (v := v199_) rfl (by kernel_rfl) rfl rfl (congrArg Value.bool c110_t) (fun w hS => x_move rfl) hq108_ ?_
                  refine A_ready (i := 17) (rs := [19]) (by kernel_rfl) ?_
                  refine AllR.cons ?_ ?_
                  · skip
                    refine A_opYes (ls' := #[true, true, true, true, true, true, true, true, true, true, true, true, true, true, true, true, true, true, true, false, false, false, false]) (j := 15) (dj := 90) (b := true) rfl (by kernel_rfl) rfl rfl (congrArg Value.bool c110_t) (T_val (v := (Value.string (strN os90_))) (x_b2sSl rfl H107_ 2 rfl Try.underlying43 Try.underlying5 Try.underlying9) ?_)
                    refine ⟨⟨Holds.slrd H107_ 2 rfl, Holds.slrd H107_ 3 rfl, (Holds.ro_at H107_ 0 rfl)⟩, ?_⟩
                    refine A_ready (i := 19) (rs := []) (by kernel_rfl) ?_
                    refine AllR.cons ?_ AllR.nil
                    obtain ⟨R111_, hs112_, ⟨R113_, ha114_, hs115_⟩, H116_⟩ := Holds.gift H107_
                    replace H116_ : Holds w101_.drew (ro R111_ :: sl 5 1 v89_ (List.length os90_) (bytesV os90_) :: sl 5 1 v79_ (List.length os80_) (bytesV os80_) :: F) := H116_
                    have hs117_ := Sub.trans' hs72_ hs112_
                    have hr118_ : RS R111_ 1 v199_ ((wfs prev L).length) (((wfs prev L).map strN).map Value.string) := (sl_RS ha114_ (Sub.rfl' _)).mono hs115_
                    refine A_opYes (ls' := #[true, true, true, true, true, true, true, true, true, true, true, true, true, true, true, true, true, true, true, true, false, false, false]) (j := 15) (dj := 90) (b := true) rfl (by kernel_rfl) rfl rfl (congrArg Value.bool c110_t) (T_call (al := [v199_]) (pre := []) (F := sl 5 1 v89_ (List.length os90_) (bytesV os90_) :: sl 5 1 v79_ (List.length os80_) (bytesV os80_) :: F) rfl rfl cb21 (lJoin R111_ v199_ ((wfs prev L).map strN) (RS.set_ hr118_ rfl (by first | rfl | omega | (simp; done) | (simp; omega))) (by rw [List.length_map, wfs_len]; omega) (fun x hx => by obtain ⟨y, hy, rfl⟩ := List.mem_map.1 hx; rw [strN_size']; have := wfs_small (prev := prev) hG y hy; omega)) H116_ ?_)
                    rintro v119_ p123_ w120_ ⟨rfl, rfl⟩ S122_ H121_
                    replace H121_ : Holds w120_ (ro R111_ :: sl 5 1 v89_ (List.length os90_) (bytesV os90_) :: sl 5 1 v79_ (List.length os80_) (bytesV os80_) :: F) := H121_
                    have S124_ := Same.trans (Same.trans S105_ (Same.drew _)) S122_
                    refine ⟨⟨Holds.slrd H121_ 1 rfl, Holds.slrd H121_ 2 rfl, (Sub.trans' hs112_ (Holds.ro_at H121_ 0 rfl))⟩, ?_⟩
                    have hq125_ := And.intro (Holds.slrd H121_ 1 rfl) (And.intro (Holds.slrd H121_ 2 rfl) ((Sub.trans' hs112_ (Holds.ro_at H121_ 0 rfl))))
                    refine A_tkY 20 (j := 15) (dj := 90) (b := true) (v := (Value.bool ((strN os90_).toList == (joinB ((wfs prev L).map strN)).toList))) rfl (by kernel_rfl) rfl rfl (congrArg Value.bool c110_t) (fun w hS => x_str rfl rfl rfl (by decide)) hq125_ ?_
                    refine A_tk 21 (v := (Value.bool ((strN os90_).toList == (joinB ((wfs prev L).map strN)).toList))) rfl (by kernel_rfl) (fun w hS => (x_pickT (congrArg Value.bool c110_t) rfl)) hq125_ ?_
                    refine A_tk 22 (v := (Value.bool ((strN os90_).toList == (joinB ((wfs prev L).map strN)).toList))) rfl (by kernel_rfl) (fun w hS => x_assign rfl) hq125_ ?_
                    refine A_done (by kernel_rfl) ?_
                    refine (X_then (hK106_ _ _ ?_))
                    clear hK106_
                    refine C_ret ?_
                    refine R_any (v := (Value.bool ((strN os90_).toList == (joinB ((wfs prev L).map strN)).toList))) (run_results1 rfl rfl) ?_
                    have H126_ : Holds w120_ (ro R :: sl 5 1 v89_ (List.length os90_) (bytesV os90_) :: sl 5 1 v79_ (List.length os80_) (bytesV os80_) :: F) := Holds.ro_less H121_ hs117_
                    have H127_ : Holds w120_ (ro R :: F) := (Holds.erase (Holds.erase (Holds.bring H126_ 0 rfl) 1) 1)
                    exact ⟨_, [], rfl, ⟨(congrArg Value.bool ((by rw [he91_, joinB_strN]; simp) : ((strN os90_).toList == (joinB ((wfs prev L).map strN)).toList) = true)), rfl⟩, S124_, H127_⟩
                  refine AllR.cons ?_ AllR.nil
                  obtain ⟨R128_, hs129_, ⟨R130_, ha131_, hs132_⟩, H133_⟩ := Holds.gift H107_
                  replace H133_ : Holds w101_.drew (ro R128_ :: sl 5 1 v89_ (List.length os90_) (bytesV os90_) :: sl 5 1 v79_ (List.length os80_) (bytesV os80_) :: F) := H133_
                  have hs134_ := Sub.trans' hs72_ hs129_
                  have hr135_ : RS R128_ 1 v199_ ((wfs prev L).length) (((wfs prev L).map strN).map Value.string) := (sl_RS ha131_ (Sub.rfl' _)).mono hs132_
                  refine A_opYes (ls' := #[true, true, true, true, true, true, true, true, true, true, true, true, true, true, true, true, true, false, true, true, false, false, false]) (j := 15) (dj := 90) (b := true) rfl (by kernel_rfl) rfl rfl (congrArg Value.bool c110_t) (T_call (al := [v199_]) (pre := []) (F := sl 5 1 v89_ (List.length os90_) (bytesV os90_) :: sl 5 1 v79_ (List.length os80_) (bytesV os80_) :: F) rfl rfl cb21 (lJoin R128_ v199_ ((wfs prev L).map strN) (RS.set_ hr135_ rfl (by first | rfl | omega | (simp; done) | (simp; omega))) (by rw [List.length_map, wfs_len]; omega) (fun x hx => by obtain ⟨y, hy, rfl⟩ := List.mem_map.1 hx; rw [strN_size']; have := wfs_small (prev := prev) hG y hy; omega)) H133_ ?_)
                  rintro v136_ p140_ w137_ ⟨rfl, rfl⟩ S139_ H138_
                  replace H138_ : Holds w137_ (ro R128_ :: sl 5 1 v89_ (List.length os90_) (bytesV os90_) :: sl 5 1 v79_ (List.length os80_) (bytesV os80_) :: F) := H138_
                  have S141_ := Same.trans (Same.trans S105_ (Same.drew _)) S139_
                  refine ⟨⟨Holds.slrd H138_ 1 rfl, Holds.slrd H138_ 2 rfl, (Sub.trans' hs129_ (Holds.ro_at H138_ 0 rfl))⟩, ?_⟩
                  refine A_ready (i := 17) (rs := []) (by kernel_rfl) ?_
                  refine AllR.cons ?_ AllR.nil
                  refine A_opYes (ls' := #[true, true, true, true, true, true, true, true, true, true, true, true, true, true, true, true, true, true, true, true, false, false, false]) (j := 15) (dj := 90) (b := true) rfl (by kernel_rfl) rfl rfl (congrArg Value.bool c110_t) (T_val (v := (Value.string (strN os90_))) (x_b2sSl rfl H138_ 1 rfl Try.underlying43 Try.underlying5 Try.underlying9) ?_)
                  refine ⟨⟨Holds.slrd H138_ 1 rfl, Holds.slrd H138_ 2 rfl, (Sub.trans' hs129_ (Holds.ro_at H138_ 0 rfl))⟩, ?_⟩
                  have hq142_ := And.intro (Holds.slrd H138_ 1 rfl) (And.intro (Holds.slrd H138_ 2 rfl) ((Sub.trans' hs129_ (Holds.ro_at H138_ 0 rfl))))
                  refine A_tkY 20 (j := 15) (dj := 90) (b := true) (v := (Value.bool ((strN os90_).toList == (joinB ((wfs prev L).map strN)).toList))) rfl (by kernel_rfl) rfl rfl (congrArg Value.bool c110_t) (fun w hS => x_str rfl rfl rfl (by decide)) hq142_ ?_
                  refine A_tk 21 (v := (Value.bool ((strN os90_).toList == (joinB ((wfs prev L).map strN)).toList))) rfl (by kernel_rfl) (fun w hS => (x_pickT (congrArg Value.bool c110_t) rfl)) hq142_ ?_
                  refine A_tk 22 (v := (Value.bool ((strN os90_).toList == (joinB ((wfs prev L).map strN)).toList))) rfl (by kernel_rfl) (fun w hS => x_assign rfl) hq142_ ?_
                  refine A_done (by kernel_rfl) ?_
                  refine (X_then (hK106_ _ _ ?_))
                  clear hK106_
                  refine C_ret ?_
                  refine R_any (v := (Value.bool ((strN os90_).toList == (joinB ((wfs prev L).map strN)).toList))) (run_results1 rfl rfl) ?_
                  have H143_ : Holds w137_ (ro R :: sl 5 1 v89_ (List.length os90_) (bytesV os90_) :: sl 5 1 v79_ (List.length os80_) (bytesV os80_) :: F) := Holds.ro_less H138_ hs134_
                  have H144_ : Holds w137_ (ro R :: F) := (Holds.erase (Holds.erase (Holds.bring H143_ 0 rfl) 1) 1)
                  exact ⟨_, [], rfl, ⟨(congrArg Value.bool ((by rw [he91_, joinB_strN]; simp) : ((strN os90_).toList == (joinB ((wfs prev L).map strN)).toList) = true)), rfl⟩, S141_, H144_⟩
                · skip
                  rw [he81_, he91_, hMg] at c110_f; simp at c110_f
              refine AllR.cons ?_ AllR.nil
              refine A_opYes (ls' := #[true, true, true, true, true, true, true, true, true, true, false, true, true, false, false, false, false, false, false, false, false, false, false]) (j := 8) (dj := 83) (b := true) rfl (by kernel_rfl) rfl rfl rfl (T_val (v := (Value.string (strN os90_))) (x_b2sSl rfl H107_ 2 rfl Try.underlying43 Try.underlying5 Try.underlying9) ?_)
              refine ⟨⟨Holds.slrd H107_ 2 rfl, Holds.slrd H107_ 3 rfl, (Holds.ro_at H107_ 0 rfl)⟩, ?_⟩
              refine A_ready (i := 10) (rs := []) (by kernel_rfl) ?_
              refine AllR.cons ?_ AllR.nil
              refine A_opYes (ls' := #[true, true, true, true, true, true, true, true, true, true, true, true, true, false, false, false, false, false, false, false, false, false, false]) (j := 8) (dj := 83) (b := true) rfl (by kernel_rfl) rfl rfl rfl (T_val (v := (Value.string (strN os80_))) (x_b2sSl rfl H107_ 3 rfl Try.underlying43 Try.underlying5 Try.underlying9) ?_)
              refine ⟨⟨Holds.slrd H107_ 2 rfl, Holds.slrd H107_ 3 rfl, (Holds.ro_at H107_ 0 rfl)⟩, ?_⟩
              refine A_tkY 13 (j := 8) (dj := 83) (b := true) (v := (Value.bool ((strN os80_).toList == (strN os90_).toList))) rfl (by kernel_rfl) rfl rfl rfl (fun w hS => x_str rfl rfl rfl (by decide)) hq108_ ?_
              refine A_tk 14 (v := (Value.bool ((strN os80_).toList == (strN os90_).toList))) rfl (by kernel_rfl) (fun w hS => (x_pickT rfl rfl)) hq108_ ?_
              refine A_tk 15 (v := (Value.bool ((strN os80_).toList == (strN os90_).toList))) rfl (by kernel_rfl) (fun w hS => x_move rfl) hq108_ ?_
              rcases Bool.eq_false_or_eq_true ((strN os80_).toList == (strN os90_).toList) with c145_t | c145_f
              · skip
                refine A_tkY 16 (j := 15) (dj := 90) (b := true) (v := v89_) rfl (by kernel_rfl) rfl rfl (congrArg Value.bool c145_t) (fun w hS => x_move rfl) hq108_ ?_
                refine A_tkY 18 (j := 15) (dj := 90) (b := true) (v := v199_) rfl (by kernel_rfl) rfl rfl (congrArg Value.bool c145_t) (fun w hS => x_move rfl) hq108_ ?_
                refine A_ready (i := 17) (rs := [19]) (by kernel_rfl) ?_
                refine AllR.cons ?_ ?_
                · skip
                  refine A_opYes (ls' := #[true, true, true, true, true, true, true, true, true, true, true, true, true, true, true, true, true, true, true, false, false, false, false]) (j := 15) (dj := 90) (b := true) rfl (by kernel_rfl) rfl rfl (congrArg Value.bool c145_t) (T_val (v := (Value.string (strN os90_))) (x_b2sSl rfl H107_ 2 rfl Try.underlying43 Try.underlying5 Try.underlying9) ?_)
                  refine ⟨⟨Holds.slrd H107_ 2 rfl, Holds.slrd H107_ 3 rfl, (Holds.ro_at H107_ 0 rfl)⟩, ?_⟩
                  refine A_ready (i := 19) (rs := []) (by kernel_rfl) ?_
                  refine AllR.cons ?_ AllR.nil
                  obtain ⟨R146_, hs147_, ⟨R148_, ha149_, hs150_⟩, H151_⟩ := Holds.gift H107_
                  replace H151_ : Holds w101_.drew (ro R146_ :: sl 5 1 v89_ (List.length os90_) (bytesV os90_) :: sl 5 1 v79_ (List.length os80_) (bytesV os80_) :: F) := H151_
                  have hs152_ := Sub.trans' hs72_ hs147_
                  have hr153_ : RS R146_ 1 v199_ ((wfs prev L).length) (((wfs prev L).map strN).map Value.string) := (sl_RS ha149_ (Sub.rfl' _)).mono hs150_
                  refine A_opYes (ls' := #[true, true, true, true, true, true, true, true, true, true, true, true, true, true, true, true, true, true, true, true, false, false, false]) (j := 15) (dj := 90) (b := true) rfl (by kernel_rfl) rfl rfl (congrArg Value.bool c145_t) (T_call (al := [v199_]) (pre := []) (F := sl 5 1 v89_ (List.length os90_) (bytesV os90_) :: sl 5 1 v79_ (List.length os80_) (bytesV os80_) :: F) rfl rfl cb21 (lJoin R146_ v199_ ((wfs prev L).map strN) (RS.set_ hr153_ rfl (by first | rfl | omega | (simp; done) | (simp; omega))) (by rw [List.length_map, wfs_len]; omega) (fun x hx => by obtain ⟨y, hy, rfl⟩ := List.mem_map.1 hx; rw [strN_size']; have := wfs_small (prev := prev) hG y hy; omega)) H151_ ?_)
                  rintro v154_ p158_ w155_ ⟨rfl, rfl⟩ S157_ H156_
                  replace H156_ : Holds w155_ (ro R146_ :: sl 5 1 v89_ (List.length os90_) (bytesV os90_) :: sl 5 1 v79_ (List.length os80_) (bytesV os80_) :: F) := H156_
                  have S159_ := Same.trans (Same.trans S105_ (Same.drew _)) S157_
                  refine ⟨⟨Holds.slrd H156_ 1 rfl, Holds.slrd H156_ 2 rfl, (Sub.trans' hs147_ (Holds.ro_at H156_ 0 rfl))⟩, ?_⟩
                  have hq160_ := And.intro (Holds.slrd H156_ 1 rfl) (And.intro (Holds.slrd H156_ 2 rfl) ((Sub.trans' hs147_ (Holds.ro_at H156_ 0 rfl))))
                  refine A_tkY 20 (j := 15) (dj := 90) (b := true) (v := (Value.bool ((strN os90_).toList == (joinB ((wfs prev L).map strN)).toList))) rfl (by kernel_rfl) rfl rfl (congrArg Value.bool c145_t) (fun w hS => x_str rfl rfl rfl (by decide)) hq160_ ?_
                  refine A_tk 21 (v := (Value.bool ((strN os90_).toList == (joinB ((wfs prev L).map strN)).toList))) rfl (by kernel_rfl) (fun w hS => (x_pickT (congrArg Value.bool c145_t) rfl)) hq160_ ?_
                  refine A_tk 22 (v := (Value.bool ((strN os90_).toList == (joinB ((wfs prev L).map strN)).toList))) rfl (by kernel_rfl) (fun w hS => x_assign rfl) hq160_ ?_
                  refine A_done (by kernel_rfl) ?_
                  refine (X_then (hK106_ _ _ ?_))
                  clear hK106_
                  refine C_ret ?_
                  refine R_any (v := (Value.bool ((strN os90_).toList == (joinB ((wfs prev L).map strN)).toList))) (run_results1 rfl rfl) ?_
                  have H161_ : Holds w155_ (ro R :: sl 5 1 v89_ (List.length os90_) (bytesV os90_) :: sl 5 1 v79_ (List.length os80_) (bytesV os80_) :: F) := Holds.ro_less H156_ hs152_
                  have H162_ : Holds w155_ (ro R :: F) := (Holds.erase (Holds.erase (Holds.bring H161_ 0 rfl) 1) 1)
                  exact ⟨_, [], rfl, ⟨(congrArg Value.bool ((by rw [he91_, joinB_strN]; simp) : ((strN os90_).toList == (joinB ((wfs prev L).map strN)).toList) = true)), rfl⟩, S159_, H162_⟩
                refine AllR.cons ?_ AllR.nil
                obtain ⟨R163_, hs164_, ⟨R165_, ha166_, hs167_⟩, H168_⟩ := Holds.gift H107_
                replace H168_ : Holds w101_.drew (ro R163_ :: sl 5 1 v89_ (List.length os90_) (bytesV os90_) :: sl 5 1 v79_ (List.length os80_) (bytesV os80_) :: F) := H168_
                have hs169_ := Sub.trans' hs72_ hs164_
                have hr170_ : RS R163_ 1 v199_ ((wfs prev L).length) (((wfs prev L).map strN).map Value.string) := (sl_RS ha166_ (Sub.rfl' _)).mono hs167_
                refine A_opYes (ls' := #[true, true, true, true, true, true, true, true, true, true, true, true, true, true, true, true, true, false, true, true, false, false, false]) (j := 15) (dj := 90) (b := true) rfl (by kernel_rfl) rfl rfl (congrArg Value.bool c145_t) (T_call (al := [v199_]) (pre := []) (F := sl 5 1 v89_ (List.length os90_) (bytesV os90_) :: sl 5 1 v79_ (List.length os80_) (bytesV os80_) :: F) rfl rfl cb21 (lJoin R163_ v199_ ((wfs prev L).map strN) (RS.set_ hr170_ rfl (by first | rfl | omega | (simp; done) | (simp; omega))) (by rw [List.length_map, wfs_len]; omega) (fun x hx => by obtain ⟨y, hy, rfl⟩ := List.mem_map.1 hx; rw [strN_size']; have := wfs_small (prev := prev) hG y hy; omega)) H168_ ?_)
                rintro v171_ p175_ w172_ ⟨rfl, rfl⟩ S174_ H173_
                replace H173_ : Holds w172_ (ro R163_ :: sl 5 1 v89_ (List.length os90_) (bytesV os90_) :: sl 5 1 v79_ (List.length os80_) (bytesV os80_) :: F) := H173_
                have S176_ := Same.trans (Same.trans S105_ (Same.drew _)) S174_
                refine ⟨⟨Holds.slrd H173_ 1 rfl, Holds.slrd H173_ 2 rfl, (Sub.trans' hs164_ (Holds.ro_at H173_ 0 rfl))⟩, ?_⟩
                refine A_ready (i := 17) (rs := []) (by kernel_rfl) ?_
                refine AllR.cons ?_ AllR.nil
                refine A_opYes (ls' := #[true, true, true, true, true, true, true, true, true, true, true, true, true, true, true, true, true, true, true, true, false, false, false]) (j := 15) (dj := 90) (b := true) rfl (by kernel_rfl) rfl rfl (congrArg Value.bool c145_t) (T_val (v := (Value.string (strN os90_))) (x_b2sSl rfl H173_ 1 rfl Try.underlying43 Try.underlying5 Try.underlying9) ?_)
                refine ⟨⟨Holds.slrd H173_ 1 rfl, Holds.slrd H173_ 2 rfl, (Sub.trans' hs164_ (Holds.ro_at H173_ 0 rfl))⟩, ?_⟩
                have hq177_ := And.intro (Holds.slrd H173_ 1 rfl) (And.intro (Holds.slrd H173_ 2 rfl) ((Sub.trans' hs164_ (Holds.ro_at H173_ 0 rfl))))
                refine A_tkY 20 (j := 15) (dj := 90) (b := true) (v := (Value.bool ((strN os90_).toList == (joinB ((wfs prev L).map strN)).toList))) rfl (by kernel_rfl) rfl rfl (congrArg Value.bool c145_t) (fun w hS => x_str rfl rfl rfl (by decide)) hq177_ ?_
                refine A_tk 21 (v := (Value.bool ((strN os90_).toList == (joinB ((wfs prev L).map strN)).toList))) rfl (by kernel_rfl) (fun w hS => (x_pickT (congrArg Value.bool c145_t) rfl)) hq177_ ?_
                refine A_tk 22 (v := (Value.bool ((strN os90_).toList == (joinB ((wfs prev L).map strN)).toList))) rfl (by kernel_rfl) (fun w hS => x_assign rfl) hq177_ ?_
                refine A_done (by kernel_rfl) ?_
                refine (X_then (hK106_ _ _ ?_))
                clear hK106_
                refine C_ret ?_
                refine R_any (v := (Value.bool ((strN os90_).toList == (joinB ((wfs prev L).map strN)).toList))) (run_results1 rfl rfl) ?_
                have H178_ : Holds w172_ (ro R :: sl 5 1 v89_ (List.length os90_) (bytesV os90_) :: sl 5 1 v79_ (List.length os80_) (bytesV os80_) :: F) := Holds.ro_less H173_ hs169_
                have H179_ : Holds w172_ (ro R :: F) := (Holds.erase (Holds.erase (Holds.bring H178_ 0 rfl) 1) 1)
                exact ⟨_, [], rfl, ⟨(congrArg Value.bool ((by rw [he91_, joinB_strN]; simp) : ((strN os90_).toList == (joinB ((wfs prev L).map strN)).toList) = true)), rfl⟩, S176_, H179_⟩
              · skip
                rw [he81_, he91_, hMg] at c145_f; simp at c145_f
            · have c109_fp : ¬ ((wbad M : Int) = (A.length : Int)) := of_decide_eq_false c109_f
              omega
end Go.Proofs.Ytgeggiebefonhaa
