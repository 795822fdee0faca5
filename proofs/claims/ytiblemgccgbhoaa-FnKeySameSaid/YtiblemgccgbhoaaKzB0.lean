/- Two keys' indices are equal just if their dumps are: the walk. -/
import Derived.Test.YtiblemgccgbhoaaKyO0
set_option linter.unusedVariables false
set_option linter.unusedSimpArgs false
namespace Go.Proofs.Ytiblemgccgbhoaa
open Go Go.RowKit Gw

theorem dStep_bd {s : List GM × Bool} {v : VR} {n : Nat} (h : s.1.length ≤ n ∧ ∀ g ∈ s.1, g.l.length ≤ n) : (dStep s v).1.length ≤ n + 1 ∧ ∀ g ∈ (dStep s v).1, g.l.length ≤ n + 1 := by
  have h2 : ∀ G : List GM, G.length ≤ n + 1 → (∀ g ∈ G, g.l.length ≤ n) → (G.dropLast ++ [gAdd (gLast G) v]).length ≤ n + 1 ∧ ∀ g ∈ G.dropLast ++ [gAdd (gLast G) v], g.l.length ≤ n + 1 := by
    intro G h1 h2
    have h3 : (gLast G).l.length ≤ n := by
      by_cases e : G = []
      · subst e; exact Nat.zero_le _
      · exact h2 _ (gLast_mem e)
    refine ⟨by cases G with | nil => simp | cons a l => simp at h1 ⊢; omega, fun g hg => ?_⟩
    rcases List.mem_append.1 hg with hg | hg
    · have := h2 g (List.dropLast_subset _ hg); omega
    · rcases List.mem_singleton.1 hg with rfl
      show ((gLast G).l ++ [v.rv]).length ≤ n + 1
      rw [List.length_append]
      exact Nat.add_le_add_right h3 1
  unfold dStep
  dsimp only
  split
  · exact h2 _ (by omega) h.2
  · refine h2 _ (by rw [List.length_append]; exact Nat.add_le_add_right h.1 1) fun g hg => ?_
    rcases List.mem_append.1 hg with hg | hg
    · exact h.2 g hg
    · rcases List.mem_singleton.1 hg with rfl
      exact Nat.zero_le _
theorem dGo_bd (l : List VR) : (dGo l).1.length ≤ l.length ∧ ∀ g ∈ (dGo l).1, g.l.length ≤ l.length := by
  suffices h : ∀ (l : List VR) (s : List GM × Bool) (n : Nat), s.1.length ≤ n ∧ (∀ g ∈ s.1, g.l.length ≤ n) → (l.foldl dStep s).1.length ≤ n + l.length ∧ ∀ g ∈ (l.foldl dStep s).1, g.l.length ≤ n + l.length by
    have := h l ([], false) 0 ⟨Nat.le_refl 0, fun g hg => by cases hg⟩
    rw [Nat.zero_add] at this
    exact this
  intro l
  induction l with
  | nil => intro s n h; exact h
  | cons v l ih =>
    intro s n h
    have := ih (dStep s v) (n + 1) (dStep_bd h)
    rw [List.foldl_cons, List.length_cons, show n + (l.length + 1) = n + 1 + l.length by omega]
    exact this
theorem dGens_bd {l : List VR} {N : List GN} (h : N.map GN.m = dGens l) : N.length ≤ l.length + 1 ∧ ∀ x ∈ N, x.l.length ≤ l.length := by
  have hb := dGo_bd l
  have hd : (dGens l).length ≤ l.length + 1 ∧ ∀ g ∈ dGens l, g.l.length ≤ l.length := by
    unfold dGens
    split
    · refine ⟨by rw [List.length_append]; exact Nat.add_le_add_right hb.1 1, fun g hg => ?_⟩
      rcases List.mem_append.1 hg with hg | hg
      · exact hb.2 g hg
      · rcases List.mem_singleton.1 hg with rfl
        exact Nat.zero_le _
    · rw [List.append_nil]; exact ⟨by omega, hb.2⟩
  rw [← h, List.length_map] at hd
  exact ⟨hd.1, fun x hx => hd.2 x.m (List.mem_map_of_mem hx)⟩


noncomputable def kEqB (ma na mb nb : Int) (N1 N2 : List GN) : Bool := @decide ((ma = mb ∧ na = nb) ∧ N1.map GN.k = N2.map GN.k) (Classical.propDecidable _)
theorem kEqB_t {ma na mb nb : Int} {N1 N2 : List GN} (h : (ma = mb ∧ na = nb) ∧ N1.map GN.k = N2.map GN.k) : kEqB ma na mb nb N1 N2 = true := by unfold kEqB; exact @decide_eq_true _ (Classical.propDecidable _) h
theorem kEqB_f {ma na mb nb : Int} {N1 N2 : List GN} (h : ¬ ((ma = mb ∧ na = nb) ∧ N1.map GN.k = N2.map GN.k)) : kEqB ma na mb nb N1 N2 = false := by unfold kEqB; exact @decide_eq_false _ (Classical.propDecidable _) h
theorem kEqB_self (m n : Int) (N : List GN) : kEqB m n m n N N = true := kEqB_t ⟨⟨rfl, rfl⟩, rfl⟩

theorem kSameKeyB (R : HP) (v1 v2 : Value) (N1 N2 : List GN) (ma na mb nb : Int) (h1 : RS R 4 v1 (List.length N1) (N1.flatMap GN.cells)) (h2 : RS R 4 v2 (List.length N2) (N2.flatMap GN.cells)) (hg1 : ∀ x ∈ N1, GOk R x) (hg2 : ∀ x ∈ N2, GOk R x) (hb1 : N1.length ≤ 100000) (hb2 : ∀ x ∈ N1, x.l.length ≤ 100000) (hb3 : N2.length ≤ 100000) (hb4 : ∀ x ∈ N2, x.l.length ≤ 100000) :
    Tri Try.prog 13 #[(Value.agg #[(Value.int .i64 ma), (Value.int .i64 na), v1]), (Value.agg #[(Value.int .i64 mb), (Value.int .i64 nb), v2])] R [] (fun v__ post__ => v__ = (Value.bool (kEqB ma na mb nb N1 N2)) ∧ post__ = []) := by
  refine (kSameKey R v1 v2 N1 N2 ma na mb nb h1 h2 hg1 hg2 hb1 hb2 hb3 hb4).mono fun v post h => ?_
  rcases h with ⟨rfl, rfl, h⟩ | ⟨rfl, rfl, h⟩
  · exact ⟨by rw [kEqB_t h], rfl⟩
  · exact ⟨by rw [kEqB_f h], rfl⟩

theorem kIxEqualB (R : HP) (v1 v2 : Value) (N1 N2 : List GN) (ma na mb nb : Int) (h1 : RS R 4 v1 (List.length N1) (N1.flatMap GN.cells)) (h2 : RS R 4 v2 (List.length N2) (N2.flatMap GN.cells)) (hg1 : ∀ x ∈ N1, GOk R x) (hg2 : ∀ x ∈ N2, GOk R x) (hb1 : N1.length ≤ 100000) (hb2 : ∀ x ∈ N1, x.l.length ≤ 100000) :
    Tri Try.prog 14 #[(Value.agg #[(Value.int .i64 ma), (Value.int .i64 na), v1]), (Value.agg #[(Value.int .i64 mb), (Value.int .i64 nb), v2])] R [] (fun v__ post__ => v__ = (Value.bool (kEqB ma na mb nb N1 N2)) ∧ post__ = []) := by
  refine (kIxEqual R v1 v2 N1 N2 ma na mb nb h1 h2 hg1 hg2 hb1 hb2).mono fun v post h => ?_
  rcases h with ⟨rfl, rfl, h⟩ | ⟨rfl, rfl, h⟩
  · exact ⟨by rw [kEqB_t h], rfl⟩
  · exact ⟨by rw [kEqB_f h], rfl⟩

set_option maxHeartbeats 2000000 in
theorem fnKeySame (R : HP) (av bv : Value) (OA OB : List KO) (hA : RS R 7 av (List.length OA) (OA.flatMap KO.cells)) (hB : RS R 7 bv (List.length OB) (OB.flatMap KO.cells)) :
    Tri Try.prog 5 #[av, bv] R [] (fun v__ post__ => v__ = (Value.bool true) ∧ post__ = []) := by
 refine Tri.into (n := 69) (al := [av, bv]) Try.func5 rfl Try.ntmps5 rfl rfl fun w F H => ?_
 replace H : Holds w (ro R :: F) := H
 refine C_seq (fun K1_ hK1_ => ?_)
 refine C_reg ?_
 refine S_list (T_val (v := (Value.bool false)) (x_assign rfl) ?_)
 refine wpList_nil ?_
 refine (X_then (hK1_ _ _ ?_))
 clear hK1_
 refine C_seq (fun K2_ hK2_ => ?_)
 refine C_seq (fun K3_ hK3_ => ?_)
 refine C_reg ?_
 refine S_list (T_val (v := av) (x_move rfl) ?_)
 refine S_list (T_val (v := (Value.int .i64 ((List.length OA) : Int))) (x_lenRS rfl hA Try.underlying22) ?_)
 refine S_list (T_val (v := (Value.bool (decide (2147483647 < ((List.length OA) : Int))))) (x_bin rfl rfl rfl) ?_)
 refine S_list (T_val (v := (Value.bool (decide (2147483647 < ((List.length OA) : Int))))) (x_move rfl) ?_)
 rcases Bool.eq_false_or_eq_true (decide (2147483647 < ((List.length OA) : Int))) with c4_t | c4_f
 ·have c4_tp : 2147483647 < ((List.length OA) : Int) := of_decide_eq_true c4_t
  refine S_no (j := 3) (dj := 16) (b := true) rfl rfl (congrArg Value.bool c4_t) (by decide) ?_
  refine S_no (j := 3) (dj := 16) (b := true) rfl rfl (congrArg Value.bool c4_t) (by decide) ?_
  refine S_no (j := 3) (dj := 16) (b := true) rfl rfl (congrArg Value.bool c4_t) (by decide) ?_
  refine S_list (T_pickT (v := (Value.bool true)) (congrArg Value.bool c4_t) rfl ?_)
  refine wpList_nil ?_
  refine (X_then (hK3_ _ _ ?_))
  clear hK3_
  refine C_condT rfl ?_
  refine C_seq (fun K5_ hK5_ => ?_)
  refine C_reg ?_
  refine S_list (T_val (v := (Value.bool true)) (x_assign rfl) ?_)
  refine wpList_nil ?_
  refine (X_then (hK5_ _ _ ?_))
  clear hK5_
  refine C_ret (X_thenR ?_)
  refine R_any (v := (Value.bool true)) (run_results1 rfl rfl) ?_
  exact ⟨_, _, rfl, ⟨rfl, rfl⟩, (Same.refl w), H⟩
 ·have c4_fp : ¬ (2147483647 < ((List.length OA) : Int)) := of_decide_eq_false c4_f
  refine S_yes (j := 3) (dj := 16) (b := false) rfl rfl (congrArg Value.bool c4_f) (T_val (v := bv) (x_move rfl) ?_)
  refine S_yes (j := 3) (dj := 16) (b := false) rfl rfl (congrArg Value.bool c4_f) (T_val (v := (Value.int .i64 ((List.length OB) : Int))) (x_lenRS rfl hB Try.underlying22) ?_)
  refine S_yes (j := 3) (dj := 16) (b := false) rfl rfl (congrArg Value.bool c4_f) (T_val (v := (Value.bool (decide (2147483647 < ((List.length OB) : Int))))) (x_bin rfl rfl rfl) ?_)
  refine S_list (T_pickF (v := (Value.bool (decide (2147483647 < ((List.length OB) : Int))))) (congrArg Value.bool c4_f) rfl ?_)
  refine wpList_nil ?_
  refine (X_then (hK3_ _ _ ?_))
  clear hK3_
  refine C_cond (b := decide (2147483647 < ((List.length OB) : Int))) rfl (fun c6_t => ?_) (fun c6_f => ?_)
  ·have c6_tp : 2147483647 < ((List.length OB) : Int) := of_decide_eq_true c6_t
   refine C_seq (fun K7_ hK7_ => ?_)
   refine C_reg ?_
   refine S_list (T_val (v := (Value.bool true)) (x_assign rfl) ?_)
   refine wpList_nil ?_
   refine (X_then (hK7_ _ _ ?_))
   clear hK7_
   refine C_ret (X_thenR ?_)
   refine R_any (v := (Value.bool true)) (run_results1 rfl rfl) ?_
   exact ⟨_, _, rfl, ⟨rfl, rfl⟩, (Same.refl w), H⟩
  ·have c6_fp : ¬ (2147483647 < ((List.length OB) : Int)) := of_decide_eq_false c6_f
   refine C_skip (X_then (hK2_ _ _ ?_))
   clear hK2_
   refine C_seq (fun K8_ hK8_ => ?_)
   refine C_reg ?_
   refine S_list (T_val (v := av) (x_move rfl) ?_)
   refine S_list (T_callG (al := [((Value.slice none 0 0)), av]) (pre := []) rfl (lcons (rfl : (Value.slice none 0 0) = ((Value.slice none 0 0))) rfl) cb6 (kLife_ R (Value.slice none 0 0) av ([] : List VR) OA 0 (RS.nil R 6) (hA) (Nat.le_refl 0) (fun x hx => by cases hx) (by decide)) H ?_)
   rintro R10_ v11_ p25_ w22_ hs9_ hq26_ S24_ H23_
   rcases hq26_ with ⟨v12_, av13_, L14_, A15_, rfl, rfl, he16_, he17_, he18_, he19_, he20_⟩ | ⟨rfl, rfl, he21_⟩
   ·skip
    have S27_ := Same.trans (Same.refl w) S24_
    have hll1_ := he20_
    refine S_list (T_val (v := (Value.tuple #[v12_, av13_, (Value.bool true)])) (x_move rfl) ?_)
    refine S_list (T_val (v := v12_) (by kernel_rfl) ?_)
    refine S_list (T_val (v := av13_) (by kernel_rfl) ?_)
    refine S_list (T_val (v := (Value.bool true)) (by kernel_rfl) ?_)
    refine S_list (T_val (v := v12_) (x_assign rfl) ?_)
    refine S_list (T_val (v := av13_) (x_assign rfl) ?_)
    refine S_list (T_val (v := (Value.bool true)) (x_assign rfl) ?_)
    refine wpList_nil ?_
    refine (X_then (hK8_ _ _ ?_))
    clear hK8_
    refine C_seq (fun K29_ hK29_ => ?_)
    refine C_reg ?_
    refine S_list (T_val (v := bv) (x_move rfl) ?_)
    refine S_list (T_callG (al := [((Value.slice none 0 0)), bv]) (pre := []) rfl (lcons (rfl : (Value.slice none 0 0) = ((Value.slice none 0 0))) rfl) cb6 (kLife_ R10_ (Value.slice none 0 0) bv ([] : List VR) OB 0 (RS.nil R10_ 6) ((hB.mono hs9_)) (Nat.le_refl 0) (fun x hx => by cases hx) (by decide)) H23_ ?_)
    rintro R31_ v32_ p46_ w43_ hs30_ hq47_ S45_ H44_
    rcases hq47_ with ⟨v33_, av34_, L35_, A36_, rfl, rfl, he37_, he38_, he39_, he40_, he41_⟩ | ⟨rfl, rfl, he42_⟩
    ·skip
     replace H44_ : Holds w43_ (ro R31_ :: F) := H44_
     have S48_ := Same.trans S27_ S45_
     have hz_R_R31_ := Sub.trans' hs9_ hs30_
     have hll2_ := he41_
     refine S_list (T_val (v := (Value.tuple #[v33_, av34_, (Value.bool true)])) (x_move rfl) ?_)
     refine S_list (T_val (v := v33_) (by kernel_rfl) ?_)
     refine S_list (T_val (v := av34_) (by kernel_rfl) ?_)
     refine S_list (T_val (v := (Value.bool true)) (by kernel_rfl) ?_)
     refine S_list (T_val (v := v33_) (x_assign rfl) ?_)
     refine S_list (T_val (v := av34_) (x_assign rfl) ?_)
     refine S_list (T_val (v := (Value.bool true)) (x_assign rfl) ?_)
     refine wpList_nil ?_
     refine (X_then (hK29_ _ _ ?_))
     clear hK29_
     refine C_seq (fun K50_ hK50_ => ?_)
     refine C_seq (fun K51_ hK51_ => ?_)
     refine C_reg ?_
     refine S_list (T_val (v := (Value.bool true)) (x_move rfl) ?_)
     refine S_list (T_val (v := (Value.bool false)) (x_cast (x_not (b := true) rfl) rfl) ?_)
     refine S_list (T_val (v := (Value.bool false)) (x_move rfl) ?_)
     refine S_yes (j := 2) (dj := 35) (b := false) rfl rfl rfl (T_val (v := (Value.bool true)) (x_move rfl) ?_)
     refine S_yes (j := 2) (dj := 35) (b := false) rfl rfl rfl (T_val (v := (Value.bool false)) (x_cast (x_not (b := true) rfl) rfl) ?_)
     refine S_list (T_pickF (v := (Value.bool false)) rfl rfl ?_)
     refine S_list (T_val (v := (Value.bool false)) (x_move rfl) ?_)
     refine S_yes (j := 6) (dj := 39) (b := false) rfl rfl rfl (T_val (v := v12_) (x_move rfl) ?_)
     refine S_yes (j := 6) (dj := 39) (b := false) rfl rfl rfl (T_val (v := (Value.int .i64 ((List.length L14_) : Int))) (x_lenRS rfl (RS.mono he17_ hs30_) Try.underlying23) ?_)
     refine S_yes (j := 6) (dj := 39) (b := false) rfl rfl rfl (T_val (v := (Value.bool (decide (((List.length L14_) : Int) = 0)))) (x_bin rfl rfl rfl) ?_)
     refine S_list (T_pickF (v := (Value.bool (decide (((List.length L14_) : Int) = 0)))) rfl rfl ?_)
     refine S_list (T_val (v := (Value.bool (decide (((List.length L14_) : Int) = 0)))) (x_move rfl) ?_)
     rcases Bool.eq_false_or_eq_true (decide (((List.length L14_) : Int) = 0)) with c52_t | c52_f
     ·have c52_tp : ((List.length L14_) : Int) = 0 := of_decide_eq_true c52_t
      refine S_no (j := 11) (dj := 44) (b := true) rfl rfl (congrArg Value.bool c52_t) (by decide) ?_
      refine S_no (j := 11) (dj := 44) (b := true) rfl rfl (congrArg Value.bool c52_t) (by decide) ?_
      refine S_no (j := 11) (dj := 44) (b := true) rfl rfl (congrArg Value.bool c52_t) (by decide) ?_
      refine S_list (T_pickT (v := (Value.bool true)) (congrArg Value.bool c52_t) rfl ?_)
      refine wpList_nil ?_
      refine (X_then (hK51_ _ _ ?_))
      clear hK51_
      refine C_condT rfl ?_
      refine C_seq (fun K53_ hK53_ => ?_)
      refine C_reg ?_
      refine S_list (T_call (al := []) (pre := []) rfl rfl cb7 (kLive R31_) H44_ ?_)
      rintro v54_ p58_ w55_ ⟨rfl, rfl⟩ S57_ H56_
      have S59_ := Same.trans S48_ S57_
      refine S_list (T_val (v := (Value.bool true)) (x_assign rfl) ?_)
      refine wpList_nil ?_
      refine (X_then (hK53_ _ _ ?_))
      clear hK53_
      refine C_ret (X_thenR ?_)
      refine R_any (v := (Value.bool true)) (run_results1 rfl rfl) ?_
      have H60_ : Holds w55_ (ro R :: F) := Holds.ro_less H56_ hz_R_R31_
      exact ⟨_, _, rfl, ⟨rfl, rfl⟩, S59_, H60_⟩
     ·have c52_fp : ¬ (((List.length L14_) : Int) = 0) := of_decide_eq_false c52_f
      refine S_yes (j := 11) (dj := 44) (b := false) rfl rfl (congrArg Value.bool c52_f) (T_val (v := v33_) (x_move rfl) ?_)
      refine S_yes (j := 11) (dj := 44) (b := false) rfl rfl (congrArg Value.bool c52_f) (T_val (v := (Value.int .i64 ((List.length L35_) : Int))) (x_lenRS rfl he38_ Try.underlying23) ?_)
      refine S_yes (j := 11) (dj := 44) (b := false) rfl rfl (congrArg Value.bool c52_f) (T_val (v := (Value.bool (decide (((List.length L35_) : Int) = 0)))) (x_bin rfl rfl rfl) ?_)
      refine S_list (T_pickF (v := (Value.bool (decide (((List.length L35_) : Int) = 0)))) (congrArg Value.bool c52_f) rfl ?_)
      refine wpList_nil ?_
      refine (X_then (hK51_ _ _ ?_))
      clear hK51_
      refine C_cond (b := decide (((List.length L35_) : Int) = 0)) rfl (fun c61_t => ?_) (fun c61_f => ?_)
      ·have c61_tp : ((List.length L35_) : Int) = 0 := of_decide_eq_true c61_t
       refine C_seq (fun K62_ hK62_ => ?_)
       refine C_reg ?_
       refine S_list (T_call (al := []) (pre := []) rfl rfl cb7 (kLive R31_) H44_ ?_)
       rintro v63_ p67_ w64_ ⟨rfl, rfl⟩ S66_ H65_
       replace H65_ : Holds w64_ (ro R31_ :: F) := H65_
       have S68_ := Same.trans S48_ S66_
       refine S_list (T_val (v := (Value.bool true)) (x_assign rfl) ?_)
       refine wpList_nil ?_
       refine (X_then (hK62_ _ _ ?_))
       clear hK62_
       refine C_ret (X_thenR ?_)
       refine R_any (v := (Value.bool true)) (run_results1 rfl rfl) ?_
       have H69_ : Holds w64_ (ro R :: F) := Holds.ro_less H65_ hz_R_R31_
       exact ⟨_, _, rfl, ⟨rfl, rfl⟩, S68_, H69_⟩
      ·have c61_fp : ¬ (((List.length L35_) : Int) = 0) := of_decide_eq_false c61_f
       refine C_skip (X_then (hK50_ _ _ ?_))
       clear hK50_
       refine C_seq (fun K70_ hK70_ => ?_)
       refine C_reg ?_
       refine S_list (T_val (v := v12_) (x_move rfl) ?_)
       refine S_list (T_callG (al := [v12_]) (pre := []) rfl rfl cb9 (kDump R31_ v12_ L14_ (RS.mono he17_ hs30_) (by omega)) H44_ ?_)
       rintro R72_ v73_ p79_ w76_ hs71_ ⟨gv74_, rfl, rfl, he75_⟩ S78_ H77_
       have S80_ := Same.trans S48_ S78_
       have hz_R_R72_ := Sub.trans' hz_R_R31_ hs71_
       have hz_R10__R72_ := Sub.trans' hs30_ hs71_
       obtain ⟨gN1, hga1, hgb1, hgc1⟩ := he75_
       have hgd1 := dGens_bd hga1
       refine S_list (T_val (v := v33_) (x_move rfl) ?_)
       refine S_list (T_callG (al := [v33_]) (pre := []) rfl rfl cb9 (kDump R72_ v33_ L35_ (RS.mono he38_ hs71_) (by omega)) H77_ ?_)
       rintro R82_ v83_ p89_ w86_ hs81_ ⟨gv84_, rfl, rfl, he85_⟩ S88_ H87_
       have S90_ := Same.trans S80_ S88_
       have hz_R_R82_ := Sub.trans' hz_R_R72_ hs81_
       have hz_R10__R82_ := Sub.trans' hz_R10__R72_ hs81_
       have hz_R31__R82_ := Sub.trans' hs71_ hs81_
       obtain ⟨gN2, hga2, hgb2, hgc2⟩ := he85_
       have hgd2 := dGens_bd hga2
       refine S_list (T_alloc z34 H87_ ?_)
       intro b91_ w92_ S94_ H93_
       replace H93_ : Holds w92_ (cl b91_ 34 [(Value.int .i64 0), (Value.int .i64 0), (Value.slice none 0 0)] :: ro R82_ :: F) := H93_
       have S95_ := Same.trans S90_ S94_
       refine S_list (T_alloc z34 H93_ ?_)
       intro b96_ w97_ S99_ H98_
       have S100_ := Same.trans S95_ S99_
       refine S_list0 (T_storeN (vs := [(Value.int .i64 ((vLast L14_).rev_Main)), (Value.int .i64 ((vLast L14_).rev_Sub)), gv74_]) rfl rfl z34 rfl (List.forall_mem_cons.2 ⟨rfl, (List.forall_mem_cons.2 ⟨rfl, (List.forall_mem_cons.2 ⟨(RS.one (RS.mono hgb1 hs81_)), (fun _ h__ => by cases h__)⟩)⟩)⟩) H98_ 1 rfl (Nat.le_of_ble_eq_true (by rfl)) ?_)
       intro w101_ S103_ H102_
       have S104_ := Same.trans S100_ S103_
       refine S_list0 (T_storeN (vs := [(Value.int .i64 ((vLast L35_).rev_Main)), (Value.int .i64 ((vLast L35_).rev_Sub)), gv84_]) rfl rfl z34 rfl (List.forall_mem_cons.2 ⟨rfl, (List.forall_mem_cons.2 ⟨rfl, (List.forall_mem_cons.2 ⟨(RS.one hgb2), (fun _ h__ => by cases h__)⟩)⟩)⟩) H102_ 0 rfl (Nat.le_of_ble_eq_true (by rfl)) ?_)
       intro w105_ S107_ H106_
       replace H106_ : Holds w105_ (cl b96_ 34 [(Value.int .i64 ((vLast L35_).rev_Main)), (Value.int .i64 ((vLast L35_).rev_Sub)), gv84_] :: cl b91_ 34 [(Value.int .i64 ((vLast L14_).rev_Main)), (Value.int .i64 ((vLast L14_).rev_Sub)), gv74_] :: ro R82_ :: F) := H106_
       have S108_ := Same.trans S104_ S107_
       refine wpList_nil ?_
       refine (X_then (hK70_ _ _ ?_))
       clear hK70_
       refine C_seq (fun K109_ hK109_ => ?_)
       refine A_start (S := fun w => Rd b96_ [(Value.int .i64 ((vLast L35_).rev_Main)), (Value.int .i64 ((vLast L35_).rev_Sub)), gv84_] w ∧ Rd b91_ [(Value.int .i64 ((vLast L14_).rev_Main)), (Value.int .i64 ((vLast L14_).rev_Sub)), gv74_] w ∧ Sub R82_ (hp w)) (N := 16) foll rfl rfl ?_
       have H110_ := Holds.drew_ H106_
       have hq111_ := And.intro (Holds.rd H110_ 0 rfl) (And.intro (Holds.rd H110_ 1 rfl) ((Holds.ro_at H110_ 2 rfl)))
       refine A_tk 0 (v := (Value.agg #[(Value.int .i64 ((vLast L14_).rev_Main)), (Value.int .i64 ((vLast L14_).rev_Sub)), gv74_])) rfl (by kernel_rfl) (fun w hS => x_loadN (vs := [(Value.int .i64 ((vLast L14_).rev_Main)), (Value.int .i64 ((vLast L14_).rev_Sub)), gv74_]) rfl Try.underlying34 rfl z34 rfl (Rd.cells hS.2.1 0 rfl)) hq111_ ?_
       refine A_tk 1 (v := (Value.agg #[(Value.int .i64 ((vLast L35_).rev_Main)), (Value.int .i64 ((vLast L35_).rev_Sub)), gv84_])) rfl (by kernel_rfl) (fun w hS => x_loadN (vs := [(Value.int .i64 ((vLast L35_).rev_Main)), (Value.int .i64 ((vLast L35_).rev_Sub)), gv84_]) rfl Try.underlying34 rfl z34 rfl (Rd.cells hS.1 0 rfl)) hq111_ ?_
       refine A_tk 3 (v := (Value.agg #[(Value.int .i64 ((vLast L14_).rev_Main)), (Value.int .i64 ((vLast L14_).rev_Sub)), gv74_])) rfl (by kernel_rfl) (fun w hS => x_loadN (vs := [(Value.int .i64 ((vLast L14_).rev_Main)), (Value.int .i64 ((vLast L14_).rev_Sub)), gv74_]) rfl Try.underlying34 rfl z34 rfl (Rd.cells hS.2.1 0 rfl)) hq111_ ?_
       refine A_tk 4 (v := (Value.agg #[(Value.int .i64 ((vLast L35_).rev_Main)), (Value.int .i64 ((vLast L35_).rev_Sub)), gv84_])) rfl (by kernel_rfl) (fun w hS => x_loadN (vs := [(Value.int .i64 ((vLast L35_).rev_Main)), (Value.int .i64 ((vLast L35_).rev_Sub)), gv84_]) rfl Try.underlying34 rfl z34 rfl (Rd.cells hS.1 0 rfl)) hq111_ ?_
       refine A_ready (i := 2) (rs := []) (by kernel_rfl) ?_
       refine AllR.cons ?_ AllR.nil
       have H113_ := ((Holds.bring H110_ 2 rfl) :)
       refine A_op (ls' := #[true, true, true, true, true, false, false, false, false, false, false, false, false, false, false, false]) rfl (by kernel_rfl) (T_call (al := [(Value.agg #[(Value.int .i64 ((vLast L14_).rev_Main)), (Value.int .i64 ((vLast L14_).rev_Sub)), gv74_]), (Value.agg #[(Value.int .i64 ((vLast L35_).rev_Main)), (Value.int .i64 ((vLast L35_).rev_Sub)), gv84_])]) (pre := []) rfl rfl cb13 (kSameKeyB R82_ gv74_ gv84_ gN1 gN2 ((vLast L14_).rev_Main) ((vLast L14_).rev_Sub) ((vLast L35_).rev_Main) ((vLast L35_).rev_Sub) (RS.mono hgb1 hs81_) hgb2 (fun x hx => (hgc1 x hx).mono hs81_) (hgc2) (by omega) (fun x hx => by have := hgd1.2 x hx; omega) (by omega) (fun x hx => by have := hgd2.2 x hx; omega)) H113_ ?_)
       rintro v112_ p117_ w114_ ⟨rfl, rfl⟩ S116_ H115_
       have S118_ := Same.trans (Same.trans S108_ (Same.drew _)) S116_
       refine ⟨⟨Holds.rd H115_ 1 rfl, Holds.rd H115_ 2 rfl, (Holds.ro_at H115_ 0 rfl)⟩, ?_⟩
       refine A_ready (i := 5) (rs := []) (by kernel_rfl) ?_
       refine AllR.cons ?_ AllR.nil
       refine A_op (ls' := #[true, true, true, true, true, true, false, false, false, false, false, false, false, false, false, false]) rfl (by kernel_rfl) (T_call (al := [(Value.agg #[(Value.int .i64 ((vLast L14_).rev_Main)), (Value.int .i64 ((vLast L14_).rev_Sub)), gv74_]), (Value.agg #[(Value.int .i64 ((vLast L35_).rev_Main)), (Value.int .i64 ((vLast L35_).rev_Sub)), gv84_])]) (pre := []) rfl rfl cb14 (kIxEqualB R82_ gv74_ gv84_ gN1 gN2 ((vLast L14_).rev_Main) ((vLast L14_).rev_Sub) ((vLast L35_).rev_Main) ((vLast L35_).rev_Sub) (RS.mono hgb1 hs81_) hgb2 (fun x hx => (hgc1 x hx).mono hs81_) (hgc2) (by omega) (fun x hx => by have := hgd1.2 x hx; omega)) H115_ ?_)
       rintro v119_ p123_ w120_ ⟨rfl, rfl⟩ S122_ H121_
       replace H121_ : Holds w120_ (ro R82_ :: cl b96_ 34 [(Value.int .i64 ((vLast L35_).rev_Main)), (Value.int .i64 ((vLast L35_).rev_Sub)), gv84_] :: cl b91_ 34 [(Value.int .i64 ((vLast L14_).rev_Main)), (Value.int .i64 ((vLast L14_).rev_Sub)), gv74_] :: F) := H121_
       have S124_ := Same.trans S118_ S122_
       refine ⟨⟨Holds.rd H121_ 1 rfl, Holds.rd H121_ 2 rfl, (Holds.ro_at H121_ 0 rfl)⟩, ?_⟩
       have hq125_ := And.intro (Holds.rd H121_ 1 rfl) (And.intro (Holds.rd H121_ 2 rfl) ((Holds.ro_at H121_ 0 rfl)))
       refine A_tk 6 (v := (Value.bool true)) rfl (by kernel_rfl) (fun w hS => x_cast (x_eqB rfl rfl Try.underlying4) (by simp)) hq125_ ?_
       refine A_tk 7 (v := (Value.bool true)) rfl (by kernel_rfl) (fun w hS => x_move rfl) hq125_ ?_
       refine A_tkY 8 (j := 7) (dj := 61) (b := true) (v := (Value.agg #[(Value.int .i64 ((vLast L14_).rev_Main)), (Value.int .i64 ((vLast L14_).rev_Sub)), gv74_])) rfl (by kernel_rfl) rfl rfl rfl (fun w hS => x_loadN (vs := [(Value.int .i64 ((vLast L14_).rev_Main)), (Value.int .i64 ((vLast L14_).rev_Sub)), gv74_]) rfl Try.underlying34 rfl z34 rfl (Rd.cells hS.2.1 0 rfl)) hq125_ ?_
       refine A_tkY 9 (j := 7) (dj := 61) (b := true) (v := (Value.agg #[(Value.int .i64 ((vLast L14_).rev_Main)), (Value.int .i64 ((vLast L14_).rev_Sub)), gv74_])) rfl (by kernel_rfl) rfl rfl rfl (fun w hS => x_loadN (vs := [(Value.int .i64 ((vLast L14_).rev_Main)), (Value.int .i64 ((vLast L14_).rev_Sub)), gv74_]) rfl Try.underlying34 rfl z34 rfl (Rd.cells hS.2.1 0 rfl)) hq125_ ?_
       refine A_ready (i := 10) (rs := []) (by kernel_rfl) ?_
       refine AllR.cons ?_ AllR.nil
       refine A_opYes (ls' := #[true, true, true, true, true, true, true, true, true, true, true, false, false, false, false, false]) (j := 7) (dj := 61) (b := true) rfl (by kernel_rfl) rfl rfl rfl (T_call (al := [(Value.agg #[(Value.int .i64 ((vLast L14_).rev_Main)), (Value.int .i64 ((vLast L14_).rev_Sub)), gv74_]), (Value.agg #[(Value.int .i64 ((vLast L14_).rev_Main)), (Value.int .i64 ((vLast L14_).rev_Sub)), gv74_])]) (pre := []) rfl rfl cb13 (kSameKeyB R82_ gv74_ gv74_ gN1 gN1 ((vLast L14_).rev_Main) ((vLast L14_).rev_Sub) ((vLast L14_).rev_Main) ((vLast L14_).rev_Sub) (RS.mono hgb1 hs81_) (RS.mono hgb1 hs81_) (fun x hx => (hgc1 x hx).mono hs81_) (fun x hx => (hgc1 x hx).mono hs81_) (by omega) (fun x hx => by have := hgd1.2 x hx; omega) (by omega) (fun x hx => by have := hgd1.2 x hx; omega)) H121_ ?_)
       rintro v126_ p130_ w127_ ⟨rfl, rfl⟩ S129_ H128_
       have S131_ := Same.trans S124_ S129_
       refine ⟨⟨Holds.rd H128_ 1 rfl, Holds.rd H128_ 2 rfl, (Holds.ro_at H128_ 0 rfl)⟩, ?_⟩
       have hq132_ := And.intro (Holds.rd H128_ 1 rfl) (And.intro (Holds.rd H128_ 2 rfl) ((Holds.ro_at H128_ 0 rfl)))
       refine A_tk 11 (v := (Value.bool (kEqB ((vLast L14_).rev_Main) ((vLast L14_).rev_Sub) ((vLast L14_).rev_Main) ((vLast L14_).rev_Sub) gN1 gN1))) rfl (by kernel_rfl) (fun w hS => (x_pickT rfl rfl)) hq132_ ?_
       refine A_tk 12 (v := (Value.bool (kEqB ((vLast L14_).rev_Main) ((vLast L14_).rev_Sub) ((vLast L14_).rev_Main) ((vLast L14_).rev_Sub) gN1 gN1))) rfl (by kernel_rfl) (fun w hS => x_move rfl) hq132_ ?_
       rcases Bool.eq_false_or_eq_true (kEqB ((vLast L14_).rev_Main) ((vLast L14_).rev_Sub) ((vLast L14_).rev_Main) ((vLast L14_).rev_Sub) gN1 gN1) with c133_t | c133_f
       ·skip
        refine A_ready (i := 13) (rs := []) (by kernel_rfl) ?_
        refine AllR.cons ?_ AllR.nil
        refine A_opYes (ls' := #[true, true, true, true, true, true, true, true, true, true, true, true, true, true, false, false]) (j := 12) (dj := 66) (b := true) rfl (by kernel_rfl) rfl rfl (congrArg Value.bool c133_t) (T_call (al := []) (pre := []) rfl rfl cb7 (kLive R82_) H128_ ?_)
        rintro v134_ p138_ w135_ ⟨rfl, rfl⟩ S137_ H136_
        have S139_ := Same.trans S131_ S137_
        refine ⟨⟨Holds.rd H136_ 1 rfl, Holds.rd H136_ 2 rfl, (Holds.ro_at H136_ 0 rfl)⟩, ?_⟩
        have hq140_ := And.intro (Holds.rd H136_ 1 rfl) (And.intro (Holds.rd H136_ 2 rfl) ((Holds.ro_at H136_ 0 rfl)))
        refine A_tk 14 (v := (Value.bool true)) rfl (by kernel_rfl) (fun w hS => (x_pickT (congrArg Value.bool c133_t) rfl)) hq140_ ?_
        refine A_tk 15 (v := (Value.bool true)) rfl (by kernel_rfl) (fun w hS => x_assign rfl) hq140_ ?_
        refine A_done (by kernel_rfl) ?_
        refine (X_then (hK109_ _ _ ?_))
        clear hK109_
        refine C_ret ?_
        refine R_any (v := (Value.bool true)) (run_results1 rfl rfl) ?_
        have H141_ : Holds w135_ (ro R :: cl b96_ 34 [(Value.int .i64 ((vLast L35_).rev_Main)), (Value.int .i64 ((vLast L35_).rev_Sub)), gv84_] :: cl b91_ 34 [(Value.int .i64 ((vLast L14_).rev_Main)), (Value.int .i64 ((vLast L14_).rev_Sub)), gv74_] :: F) := Holds.ro_less H136_ hz_R_R82_
        have H142_ : Holds w135_ (ro R :: F) := (Holds.pkF H141_ [0] 2 :)
        exact ⟨_, _, rfl, ⟨rfl, rfl⟩, S139_, H142_⟩
       ·skip
        simp [kEqB_self] at c133_f
    ·skip
     have S49_ := Same.trans S27_ S45_
     have hz_R_R31_ := Sub.trans' hs9_ hs30_
     refine S_list (T_val (v := (Value.tuple #[(Value.slice none 0 0), (Value.slice none 0 0), (Value.bool false)])) (x_move rfl) ?_)
     refine S_list (T_val (v := (Value.slice none 0 0)) (by kernel_rfl) ?_)
     refine S_list (T_val (v := (Value.slice none 0 0)) (by kernel_rfl) ?_)
     refine S_list (T_val (v := (Value.bool false)) (by kernel_rfl) ?_)
     refine S_list (T_val (v := (Value.slice none 0 0)) (x_assign rfl) ?_)
     refine S_list (T_val (v := (Value.slice none 0 0)) (x_assign rfl) ?_)
     refine S_list (T_val (v := (Value.bool false)) (x_assign rfl) ?_)
     refine wpList_nil ?_
     refine (X_then (hK29_ _ _ ?_))
     clear hK29_
     refine C_seq (fun K143_ hK143_ => ?_)
     refine C_seq (fun K144_ hK144_ => ?_)
     refine C_reg ?_
     refine S_list (T_val (v := (Value.bool true)) (x_move rfl) ?_)
     refine S_list (T_val (v := (Value.bool false)) (x_cast (x_not (b := true) rfl) rfl) ?_)
     refine S_list (T_val (v := (Value.bool false)) (x_move rfl) ?_)
     refine S_yes (j := 2) (dj := 35) (b := false) rfl rfl rfl (T_val (v := (Value.bool false)) (x_move rfl) ?_)
     refine S_yes (j := 2) (dj := 35) (b := false) rfl rfl rfl (T_val (v := (Value.bool true)) (x_cast (x_not (b := false) rfl) rfl) ?_)
     refine S_list (T_pickF (v := (Value.bool true)) rfl rfl ?_)
     refine S_list (T_val (v := (Value.bool true)) (x_move rfl) ?_)
     refine S_no (j := 6) (dj := 39) (b := true) rfl rfl rfl (by decide) ?_
     refine S_no (j := 6) (dj := 39) (b := true) rfl rfl rfl (by decide) ?_
     refine S_no (j := 6) (dj := 39) (b := true) rfl rfl rfl (by decide) ?_
     refine S_list (T_pickT (v := (Value.bool true)) rfl rfl ?_)
     refine S_list (T_val (v := (Value.bool true)) (x_move rfl) ?_)
     refine S_no (j := 11) (dj := 44) (b := true) rfl rfl rfl (by decide) ?_
     refine S_no (j := 11) (dj := 44) (b := true) rfl rfl rfl (by decide) ?_
     refine S_no (j := 11) (dj := 44) (b := true) rfl rfl rfl (by decide) ?_
     refine S_list (T_pickT (v := (Value.bool true)) rfl rfl ?_)
     refine wpList_nil ?_
     refine (X_then (hK144_ _ _ ?_))
     clear hK144_
     refine C_condT rfl ?_
     refine C_seq (fun K145_ hK145_ => ?_)
     refine C_reg ?_
     refine S_list (T_call (al := []) (pre := []) rfl rfl cb7 (kLive R31_) H44_ ?_)
     rintro v146_ p150_ w147_ ⟨rfl, rfl⟩ S149_ H148_
     have S151_ := Same.trans S49_ S149_
     refine S_list (T_val (v := (Value.bool true)) (x_assign rfl) ?_)
     refine wpList_nil ?_
     refine (X_then (hK145_ _ _ ?_))
     clear hK145_
     refine C_ret (X_thenR ?_)
     refine R_any (v := (Value.bool true)) (run_results1 rfl rfl) ?_
     have H152_ : Holds w147_ (ro R :: F) := Holds.ro_less H148_ hz_R_R31_
     exact ⟨_, _, rfl, ⟨rfl, rfl⟩, S151_, H152_⟩
   ·skip
    have S28_ := Same.trans (Same.refl w) S24_
    refine S_list (T_val (v := (Value.tuple #[(Value.slice none 0 0), (Value.slice none 0 0), (Value.bool false)])) (x_move rfl) ?_)
    refine S_list (T_val (v := (Value.slice none 0 0)) (by kernel_rfl) ?_)
    refine S_list (T_val (v := (Value.slice none 0 0)) (by kernel_rfl) ?_)
    refine S_list (T_val (v := (Value.bool false)) (by kernel_rfl) ?_)
    refine S_list (T_val (v := (Value.slice none 0 0)) (x_assign rfl) ?_)
    refine S_list (T_val (v := (Value.slice none 0 0)) (x_assign rfl) ?_)
    refine S_list (T_val (v := (Value.bool false)) (x_assign rfl) ?_)
    refine wpList_nil ?_
    refine (X_then (hK8_ _ _ ?_))
    clear hK8_
    refine C_seq (fun K153_ hK153_ => ?_)
    refine C_reg ?_
    refine S_list (T_val (v := bv) (x_move rfl) ?_)
    refine S_list (T_callG (al := [((Value.slice none 0 0)), bv]) (pre := []) rfl (lcons (rfl : (Value.slice none 0 0) = ((Value.slice none 0 0))) rfl) cb6 (kLife_ R10_ (Value.slice none 0 0) bv ([] : List VR) OB 0 (RS.nil R10_ 6) ((hB.mono hs9_)) (Nat.le_refl 0) (fun x hx => by cases hx) (by decide)) H23_ ?_)
    rintro R155_ v156_ p170_ w167_ hs154_ hq171_ S169_ H168_
    rcases hq171_ with ⟨v157_, av158_, L159_, A160_, rfl, rfl, he161_, he162_, he163_, he164_, he165_⟩ | ⟨rfl, rfl, he166_⟩
    ·skip
     have S172_ := Same.trans S28_ S169_
     have hz_R_R155_ := Sub.trans' hs9_ hs154_
     have hll2_ := he165_
     refine S_list (T_val (v := (Value.tuple #[v157_, av158_, (Value.bool true)])) (x_move rfl) ?_)
     refine S_list (T_val (v := v157_) (by kernel_rfl) ?_)
     refine S_list (T_val (v := av158_) (by kernel_rfl) ?_)
     refine S_list (T_val (v := (Value.bool true)) (by kernel_rfl) ?_)
     refine S_list (T_val (v := v157_) (x_assign rfl) ?_)
     refine S_list (T_val (v := av158_) (x_assign rfl) ?_)
     refine S_list (T_val (v := (Value.bool true)) (x_assign rfl) ?_)
     refine wpList_nil ?_
     refine (X_then (hK153_ _ _ ?_))
     clear hK153_
     refine C_seq (fun K174_ hK174_ => ?_)
     refine C_seq (fun K175_ hK175_ => ?_)
     refine C_reg ?_
     refine S_list (T_val (v := (Value.bool false)) (x_move rfl) ?_)
     refine S_list (T_val (v := (Value.bool true)) (x_cast (x_not (b := false) rfl) rfl) ?_)
     refine S_list (T_val (v := (Value.bool true)) (x_move rfl) ?_)
     refine S_no (j := 2) (dj := 35) (b := true) rfl rfl rfl (by decide) ?_
     refine S_no (j := 2) (dj := 35) (b := true) rfl rfl rfl (by decide) ?_
     refine S_list (T_pickT (v := (Value.bool true)) rfl rfl ?_)
     refine S_list (T_val (v := (Value.bool true)) (x_move rfl) ?_)
     refine S_no (j := 6) (dj := 39) (b := true) rfl rfl rfl (by decide) ?_
     refine S_no (j := 6) (dj := 39) (b := true) rfl rfl rfl (by decide) ?_
     refine S_no (j := 6) (dj := 39) (b := true) rfl rfl rfl (by decide) ?_
     refine S_list (T_pickT (v := (Value.bool true)) rfl rfl ?_)
     refine S_list (T_val (v := (Value.bool true)) (x_move rfl) ?_)
     refine S_no (j := 11) (dj := 44) (b := true) rfl rfl rfl (by decide) ?_
     refine S_no (j := 11) (dj := 44) (b := true) rfl rfl rfl (by decide) ?_
     refine S_no (j := 11) (dj := 44) (b := true) rfl rfl rfl (by decide) ?_
     refine S_list (T_pickT (v := (Value.bool true)) rfl rfl ?_)
     refine wpList_nil ?_
     refine (X_then (hK175_ _ _ ?_))
     clear hK175_
     refine C_condT rfl ?_
     refine C_seq (fun K176_ hK176_ => ?_)
     refine C_reg ?_
     refine S_list (T_call (al := []) (pre := []) rfl rfl cb7 (kLive R155_) H168_ ?_)
     rintro v177_ p181_ w178_ ⟨rfl, rfl⟩ S180_ H179_
     have S182_ := Same.trans S172_ S180_
     refine S_list (T_val (v := (Value.bool true)) (x_assign rfl) ?_)
     refine wpList_nil ?_
     refine (X_then (hK176_ _ _ ?_))
     clear hK176_
     refine C_ret (X_thenR ?_)
     refine R_any (v := (Value.bool true)) (run_results1 rfl rfl) ?_
     have H183_ : Holds w178_ (ro R :: F) := Holds.ro_less H179_ hz_R_R155_
     exact ⟨_, _, rfl, ⟨rfl, rfl⟩, S182_, H183_⟩
    ·skip
     replace H168_ : Holds w167_ (ro R155_ :: F) := H168_
     have S173_ := Same.trans S28_ S169_
     have hz_R_R155_ := Sub.trans' hs9_ hs154_
     refine S_list (T_val (v := (Value.tuple #[(Value.slice none 0 0), (Value.slice none 0 0), (Value.bool false)])) (x_move rfl) ?_)
     refine S_list (T_val (v := (Value.slice none 0 0)) (by kernel_rfl) ?_)
     refine S_list (T_val (v := (Value.slice none 0 0)) (by kernel_rfl) ?_)
     refine S_list (T_val (v := (Value.bool false)) (by kernel_rfl) ?_)
     refine S_list (T_val (v := (Value.slice none 0 0)) (x_assign rfl) ?_)
     refine S_list (T_val (v := (Value.slice none 0 0)) (x_assign rfl) ?_)
     refine S_list (T_val (v := (Value.bool false)) (x_assign rfl) ?_)
     refine wpList_nil ?_
     refine (X_then (hK153_ _ _ ?_))
     clear hK153_
     refine C_seq (fun K184_ hK184_ => ?_)
     refine C_seq (fun K185_ hK185_ => ?_)
     refine C_reg ?_
     refine S_list (T_val (v := (Value.bool false)) (x_move rfl) ?_)
     refine S_list (T_val (v := (Value.bool true)) (x_cast (x_not (b := false) rfl) rfl) ?_)
     refine S_list (T_val (v := (Value.bool true)) (x_move rfl) ?_)
     refine S_no (j := 2) (dj := 35) (b := true) rfl rfl rfl (by decide) ?_
     refine S_no (j := 2) (dj := 35) (b := true) rfl rfl rfl (by decide) ?_
     refine S_list (T_pickT (v := (Value.bool true)) rfl rfl ?_)
     refine S_list (T_val (v := (Value.bool true)) (x_move rfl) ?_)
     refine S_no (j := 6) (dj := 39) (b := true) rfl rfl rfl (by decide) ?_
     refine S_no (j := 6) (dj := 39) (b := true) rfl rfl rfl (by decide) ?_
     refine S_no (j := 6) (dj := 39) (b := true) rfl rfl rfl (by decide) ?_
     refine S_list (T_pickT (v := (Value.bool true)) rfl rfl ?_)
     refine S_list (T_val (v := (Value.bool true)) (x_move rfl) ?_)
     refine S_no (j := 11) (dj := 44) (b := true) rfl rfl rfl (by decide) ?_
     refine S_no (j := 11) (dj := 44) (b := true) rfl rfl rfl (by decide) ?_
     refine S_no (j := 11) (dj := 44) (b := true) rfl rfl rfl (by decide) ?_
     refine S_list (T_pickT (v := (Value.bool true)) rfl rfl ?_)
     refine wpList_nil ?_
     refine (X_then (hK185_ _ _ ?_))
     clear hK185_
     refine C_condT rfl ?_
     refine C_seq (fun K186_ hK186_ => ?_)
     refine C_reg ?_
     refine S_list (T_call (al := []) (pre := []) rfl rfl cb7 (kLive R155_) H168_ ?_)
     rintro v187_ p191_ w188_ ⟨rfl, rfl⟩ S190_ H189_
     have S192_ := Same.trans S173_ S190_
     refine S_list (T_val (v := (Value.bool true)) (x_assign rfl) ?_)
     refine wpList_nil ?_
     refine (X_then (hK186_ _ _ ?_))
     clear hK186_
     refine C_ret (X_thenR ?_)
     refine R_any (v := (Value.bool true)) (run_results1 rfl rfl) ?_
     have H193_ : Holds w188_ (ro R :: F) := Holds.ro_less H189_ hz_R_R155_
     exact ⟨_, _, rfl, ⟨rfl, rfl⟩, S192_, H193_⟩
end Go.Proofs.Ytiblemgccgbhoaa
