/- Since a number: the walk. -/
import Derived.Test.YtiblemgccgbhoaaKzE
set_option linter.unusedVariables false
set_option linter.unusedSimpArgs false
namespace Go.Proofs.Ytiblemgccgbhoaa
open Go Go.RowKit Gw

theorem dStep_bd {s : List GM × Bool} {v : VR} {n : Nat} (h : s.1.length ≤ n ∧ ∀ g ∈ s.1, g.l.length ≤ n) : (dStep s v).1.length ≤ n + 1 ∧ ∀ g ∈ (dStep s v).1, g.l.length ≤ n + 1 := by
  have h2 : ∀ G : List GM, G.length ≤ n + 1 → (∀ g ∈ G, g.l.length ≤ n) → (G.dropLast ++ [gAdd (gLast G) v]).length ≤ n + 1 ∧ ∀ g ∈ G.dropLast ++ [gAdd (gLast G) v], g.l.length ≤ n + 1 := by
    intro G h1 h2
    have h3 : (gLast G).l.length ≤ n := by
      by_cases e : G = []
      · subst e; exact Nat.zero_le _
      · exact h2 _ (gLast_mem e)
    refine ⟨by cases G with | nil => simp | cons a l => simp at h1 ⊢; omega, fun g hg => ?_⟩
    rcases List.mem_append.1 hg with hg | hg
    · have := h2 g (List.dropLast_subset _ hg); omega
    · rcases List.mem_singleton.1 hg with rfl
      show ((gLast G).l ++ [v.rv]).length ≤ n + 1
      rw [List.length_append]
      exact Nat.add_le_add_right h3 1
  unfold dStep
  dsimp only
  split
  · exact h2 _ (by omega) h.2
  · refine h2 _ (by rw [List.length_append]; exact Nat.add_le_add_right h.1 1) fun g hg => ?_
    rcases List.mem_append.1 hg with hg | hg
    · exact h.2 g hg
    · rcases List.mem_singleton.1 hg with rfl
      exact Nat.zero_le _
theorem dGo_bd (l : List VR) : (dGo l).1.length ≤ l.length ∧ ∀ g ∈ (dGo l).1, g.l.length ≤ l.length := by
  suffices h : ∀ (l : List VR) (s : List GM × Bool) (n : Nat), s.1.length ≤ n ∧ (∀ g ∈ s.1, g.l.length ≤ n) → (l.foldl dStep s).1.length ≤ n + l.length ∧ ∀ g ∈ (l.foldl dStep s).1, g.l.length ≤ n + l.length by
    have := h l ([], false) 0 ⟨Nat.le_refl 0, fun g hg => by cases hg⟩
    rw [Nat.zero_add] at this
    exact this
  intro l
  induction l with
  | nil => intro s n h; exact h
  | cons v l ih =>
    intro s n h
    have := ih (dStep s v) (n + 1) (dStep_bd h)
    rw [List.foldl_cons, List.length_cons, show n + (l.length + 1) = n + 1 + l.length by omega]
    exact this
theorem dGens_bd {l : List VR} {N : List GN} (h : N.map GN.m = dGens l) : N.length ≤ l.length + 1 ∧ ∀ x ∈ N, x.l.length ≤ l.length := by
  have hb := dGo_bd l
  have hd : (dGens l).length ≤ l.length + 1 ∧ ∀ g ∈ dGens l, g.l.length ≤ l.length := by
    unfold dGens
    split
    · refine ⟨by rw [List.length_append]; exact Nat.add_le_add_right hb.1 1, fun g hg => ?_⟩
      rcases List.mem_append.1 hg with hg | hg
      · exact hb.2 g hg
      · rcases List.mem_singleton.1 hg with rfl
        exact Nat.zero_le _
    · rw [List.append_nil]; exact ⟨by omega, hb.2⟩
  rw [← h, List.length_map] at hd
  exact ⟨hd.1, fun x hx => hd.2 x.m (List.mem_map_of_mem hx)⟩


theorem dGens_ver {l : List VR} {n : Int} (hn : 0 ≤ n) (h : ∀ x ∈ l, 0 ≤ x.ver ∧ x.ver ≤ n) : ∀ g ∈ dGens l, 0 ≤ g.ver ∧ g.ver ≤ n := by
  have hd : ∀ (r : List VR) (s : List GM × Bool), (∀ x ∈ r, 0 ≤ x.ver ∧ x.ver ≤ n) → (∀ g ∈ s.1, 0 ≤ g.ver ∧ g.ver ≤ n) → ∀ g ∈ (r.foldl dStep s).1, 0 ≤ g.ver ∧ g.ver ≤ n := by
    intro r
    induction r with
    | nil => intro s _ h2; exact h2
    | cons v r ih =>
      intro s h1 h2
      rw [List.foldl_cons]
      refine ih _ (fun x hx => h1 x (List.mem_cons_of_mem _ hx)) fun g hg => ?_
      unfold dStep at hg
      dsimp only at hg
      rcases List.mem_append.1 hg with hg | hg
      · split at hg
        · exact h2 g (List.dropLast_subset _ hg)
        · rw [List.dropLast_concat] at hg; exact h2 g hg
      · rcases List.mem_singleton.1 hg with rfl
        exact h1 v (List.mem_cons_self ..)
  intro g hg
  unfold dGens at hg
  rcases List.mem_append.1 hg with hg | hg
  · exact hd l ([], false) h (fun g hg => by cases hg) g hg
  · split at hg
    · rcases List.mem_singleton.1 hg with rfl
      exact ⟨Int.le_refl 0, hn⟩
    · cases hg
theorem dGens_some {l : List VR} (h : vOk l) (hne : 0 < l.length) : iEmp (dGens l) = false ∧ dGens l ≠ [] ∧ gPos (dGens l) = true := by
  obtain ⟨h1, h2, h3⟩ := dGo_take h l.length (Nat.le_refl _)
  rw [List.take_length] at h1 h2 h3
  obtain ⟨hg, _⟩ := h3 hne
  have hd : dGens l ≠ [] := by unfold dGens; simp [hg]
  refine ⟨?_, hd, ?_⟩
  · cases hx : dGens l with
    | nil => exact absurd hx hd
    | cons g r =>
      cases r with
      | cons g2 r => rfl
      | nil =>
        unfold dGens at hx
        cases hG : (dGo l).1 with
        | nil => exact absurd hG hg
        | cons g3 r3 =>
          rw [hG] at hx
          have e : g3 = g := by
            cases hx' : r3 <;> simp_all
          have := h2 g3 (by rw [hG]; exact List.mem_cons_self ..)
          rw [e] at this
          show decide (g.l.length = 0) = false
          exact decide_eq_false fun e2 => this (List.eq_nil_of_length_eq_zero e2)
  · refine List.all_eq_true.2 fun g hg2 => List.all_eq_true.2 fun r hr => ?_
    have hm : r ∈ (dGens l).flatMap GM.l := List.mem_flatMap.2 ⟨g, hg2, hr⟩
    rw [dGens_flat] at hm
    obtain ⟨x, hx, rfl⟩ := List.mem_map.1 hm
    exact decide_eq_true (h.pos x hx).1
theorem dGens_bdd {l : List VR} {B : Nat} (hl : l.length ≤ B) (hv : ∀ x ∈ l, 0 ≤ x.ver ∧ x.ver ≤ (B : Int)) : GBd (B + 1) (dGens l) := by
  have hb := dGo_bd l
  have hlen : (dGens l).length ≤ l.length + 1 ∧ ∀ g ∈ dGens l, g.l.length ≤ l.length := by
    unfold dGens
    split
    · refine ⟨by rw [List.length_append]; exact Nat.add_le_add_right hb.1 1, fun g hg => ?_⟩
      rcases List.mem_append.1 hg with hg | hg
      · exact hb.2 g hg
      · rcases List.mem_singleton.1 hg with rfl
        exact Nat.zero_le _
    · rw [List.append_nil]; exact ⟨by omega, hb.2⟩
  refine ⟨by omega, fun g hg => ?_⟩
  have h1 := hlen.2 g hg
  have h2 := dGens_ver (Int.natCast_nonneg B) hv g hg
  omega
def sinceO (at_ : Int) : List KO := [⟨6, 0, 0, 0, 0, 0, at_⟩]
def sinceR (m n : Int) (G : List GM) (at_ : Int) : List KM := [(kmRev (iSince G at_)).to (m, n, G)]
theorem since_run {m n : Int} {G : List GM} {at_ : Int} (h : iEmp G = false ∧ G ≠ [] ∧ gPos G = true) : iRun (m, n, G) [] (sinceO at_) = some (sinceR m n G at_) := by
  have e : iDo m n G ⟨6, 0, 0, 0, 0, 0, at_⟩ = some ((m, n, G), kmRev (iSince G at_)) := by
    unfold iDo
    have e2 : G.isEmpty = false := by
      cases G with
      | nil => exact absurd rfl h.2.1
      | cons a l => rfl
    simp [h.1, e2, h.2.2]
  unfold sinceO sinceR
  rw [iRun, e]
  rfl
theorem since_at {A : List KA} {m n : Int} {l : List VR} {at_ : Int} (h : vOk l) (e : A.map KA.m = sinceR m n (dGens l) at_) : A.length = 1 ∧ ∀ x, A[0]? = some x → x.rl = vSince l at_ := by
  refine ⟨by have := congrArg List.length e; simpa [sinceR] using this, fun x hx => ?_⟩
  have e1 := congrArg (·[0]?) e
  simp only [List.getElem?_map, hx, Option.map_some] at e1
  have e2 : x.m = (kmRev (iSince (dGens l) at_)).to (m, n, dGens l) := Option.some.inj e1
  have e3 : x.rl = iSince (dGens l) at_ := congrArg KM.rl e2
  rw [e3, iSince_dGens h]
noncomputable def kRevB (K1 K2 : List RV) : Bool := @decide (K1 = K2) (Classical.propDecidable _)
theorem kRevB_t {K1 K2 : List RV} (h : K1 = K2) : kRevB K1 K2 = true := by unfold kRevB; exact @decide_eq_true _ (Classical.propDecidable _) h
theorem kRevB_f {K1 K2 : List RV} (h : ¬ K1 = K2) : kRevB K1 K2 = false := by unfold kRevB; exact @decide_eq_false _ (Classical.propDecidable _) h


theorem kSameRevsB (R : HP) (v1 v2 : Value) (K1 K2 : List RV) (h1 : RS R 2 v1 (List.length K1) (K1.flatMap RV.cells)) (h2 : RS R 2 v2 (List.length K2) (K2.flatMap RV.cells)) (hb1 : K1.length ≤ 100000) :
    Tri Try.prog 11 #[v1, v2] R [] (fun v__ post__ => v__ = (Value.bool (kRevB K1 K2)) ∧ post__ = []) := by
  refine (kSameRevs R v1 v2 K1 K2 h1 h2 hb1).mono fun v post h => ?_
  rcases h with ⟨rfl, rfl, h⟩ | ⟨rfl, rfl, h⟩
  · exact ⟨by rw [kRevB_t h], rfl⟩
  · exact ⟨by rw [kRevB_f h], rfl⟩

set_option maxHeartbeats 2000000 in
theorem fnKeySince (R : HP) (av : Value) (OA : List KO) (at_ : Int) (hA : RS R 7 av (List.length OA) (OA.flatMap KO.cells)) :
    Tri Try.prog 4 #[av, (Value.int .i64 at_)] R [] (fun v__ post__ => v__ = (Value.bool true) ∧ post__ = []) := by
 refine Tri.into (n := 55) (al := [av, (Value.int .i64 at_)]) Try.func4 rfl Try.ntmps4 rfl rfl fun w F H => ?_
 replace H : Holds w (ro R :: F) := H
 refine C_seq (fun K1_ hK1_ => ?_)
 refine C_reg ?_
 refine S_list (T_val (v := (Value.bool false)) (x_assign rfl) ?_)
 refine wpList_nil ?_
 refine (X_then (hK1_ _ _ ?_))
 clear hK1_
 refine C_seq (fun K2_ hK2_ => ?_)
 refine C_seq (fun K3_ hK3_ => ?_)
 refine C_reg ?_
 refine S_list (T_val (v := av) (x_move rfl) ?_)
 refine S_list (T_val (v := (Value.int .i64 ((List.length OA) : Int))) (x_lenRS rfl hA Try.underlying22) ?_)
 refine S_list (T_val (v := (Value.bool (decide (2147483647 < ((List.length OA) : Int))))) (x_bin rfl rfl rfl) ?_)
 refine wpList_nil ?_
 refine (X_then (hK3_ _ _ ?_))
 clear hK3_
 refine C_cond (b := decide (2147483647 < ((List.length OA) : Int))) rfl (fun c4_t => ?_) (fun c4_f => ?_)
 ·have c4_tp : 2147483647 < ((List.length OA) : Int) := of_decide_eq_true c4_t
  refine C_seq (fun K5_ hK5_ => ?_)
  refine C_reg ?_
  refine S_list (T_val (v := (Value.bool true)) (x_assign rfl) ?_)
  refine wpList_nil ?_
  refine (X_then (hK5_ _ _ ?_))
  clear hK5_
  refine C_ret (X_thenR ?_)
  refine R_any (v := (Value.bool true)) (run_results1 rfl rfl) ?_
  exact ⟨_, _, rfl, ⟨rfl, rfl⟩, (Same.refl w), H⟩
 ·have c4_fp : ¬ (2147483647 < ((List.length OA) : Int)) := of_decide_eq_false c4_f
  refine C_skip (X_then (hK2_ _ _ ?_))
  clear hK2_
  refine C_seq (fun K6_ hK6_ => ?_)
  refine C_reg ?_
  refine S_list (T_val (v := av) (x_move rfl) ?_)
  refine S_list (T_callG (al := [((Value.slice none 0 0)), av]) (pre := []) rfl (lcons (rfl : (Value.slice none 0 0) = ((Value.slice none 0 0))) rfl) cb6 (kLife_ R (Value.slice none 0 0) av ([] : List VR) OA 0 (RS.nil R 6) hA (Nat.le_refl 0) (fun x hx => by cases hx) (by decide)) H ?_)
  rintro R8_ v9_ p23_ w20_ hs7_ hq24_ S22_ H21_
  rcases hq24_ with ⟨v10_, av11_, L12_, A13_, rfl, rfl, he14_, he15_, he16_, he17_, he18_⟩ | ⟨rfl, rfl, he19_⟩
  ·skip
   have S25_ := Same.trans (Same.refl w) S22_
   have hll_ := he18_
   have hok_ := kLife_ok vOk_nil he14_
   refine S_list (T_val (v := (Value.tuple #[v10_, av11_, (Value.bool true)])) (x_move rfl) ?_)
   refine S_list (T_val (v := v10_) (by kernel_rfl) ?_)
   refine S_list (T_val (v := av11_) (by kernel_rfl) ?_)
   refine S_list (T_val (v := (Value.bool true)) (by kernel_rfl) ?_)
   refine S_list (T_val (v := v10_) (x_assign rfl) ?_)
   refine S_list (T_val (v := av11_) (x_assign rfl) ?_)
   refine S_list (T_val (v := (Value.bool true)) (x_assign rfl) ?_)
   refine wpList_nil ?_
   refine (X_then (hK6_ _ _ ?_))
   clear hK6_
   refine C_seq (fun K27_ hK27_ => ?_)
   refine C_seq (fun K28_ hK28_ => ?_)
   refine C_reg ?_
   refine S_list (T_val (v := (Value.bool true)) (x_move rfl) ?_)
   refine S_list (T_val (v := (Value.bool false)) (x_cast (x_not (b := true) rfl) rfl) ?_)
   refine S_list (T_val (v := (Value.bool false)) (x_move rfl) ?_)
   refine S_yes (j := 2) (dj := 21) (b := false) rfl rfl rfl (T_val (v := v10_) (x_move rfl) ?_)
   refine S_yes (j := 2) (dj := 21) (b := false) rfl rfl rfl (T_val (v := (Value.int .i64 ((List.length L12_) : Int))) (x_lenRS rfl he15_ Try.underlying23) ?_)
   refine S_yes (j := 2) (dj := 21) (b := false) rfl rfl rfl (T_val (v := (Value.bool (decide (((List.length L12_) : Int) = 0)))) (x_bin rfl rfl rfl) ?_)
   refine S_list (T_pickF (v := (Value.bool (decide (((List.length L12_) : Int) = 0)))) rfl rfl ?_)
   refine wpList_nil ?_
   refine (X_then (hK28_ _ _ ?_))
   clear hK28_
   refine C_cond (b := decide (((List.length L12_) : Int) = 0)) rfl (fun c29_t => ?_) (fun c29_f => ?_)
   ·have c29_tp : ((List.length L12_) : Int) = 0 := of_decide_eq_true c29_t
    refine C_seq (fun K30_ hK30_ => ?_)
    refine C_reg ?_
    refine S_list (T_call (al := []) (pre := []) rfl rfl cb7 (kLive R8_) H21_ ?_)
    rintro v31_ p35_ w32_ ⟨rfl, rfl⟩ S34_ H33_
    replace H33_ : Holds w32_ (ro R8_ :: F) := H33_
    have S36_ := Same.trans S25_ S34_
    refine S_list (T_val (v := (Value.bool true)) (x_assign rfl) ?_)
    refine wpList_nil ?_
    refine (X_then (hK30_ _ _ ?_))
    clear hK30_
    refine C_ret (X_thenR ?_)
    refine R_any (v := (Value.bool true)) (run_results1 rfl rfl) ?_
    have H37_ : Holds w32_ (ro R :: F) := Holds.ro_less H33_ hs7_
    exact ⟨_, _, rfl, ⟨rfl, rfl⟩, S36_, H37_⟩
   ·have c29_fp : ¬ (((List.length L12_) : Int) = 0) := of_decide_eq_false c29_f
    refine C_skip (X_then (hK27_ _ _ ?_))
    clear hK27_
    refine C_seq (fun K38_ hK38_ => ?_)
    refine C_reg ?_
    refine S_list (T_val (v := v10_) (x_move rfl) ?_)
    refine S_list (T_callG (al := [v10_]) (pre := []) rfl rfl cb9 (kDump R8_ v10_ L12_ he15_ (by omega)) H21_ ?_)
    rintro R40_ v41_ p47_ w44_ hs39_ ⟨gv42_, rfl, rfl, he43_⟩ S46_ H45_
    have S48_ := Same.trans S25_ S46_
    have hz_R_R40_ := Sub.trans' hs7_ hs39_
    obtain ⟨gN1, hga1, hgb1, hgc1⟩ := he43_
    have hsm_ := dGens_some hok_ (by omega)
    have hbb_ : GBd 301 (gN1.map GN.m) := by rw [hga1]; exact dGens_bdd (B := 300) (by omega) (fun x hx => by have := hll_.2 x hx; omega)
    refine S_list (T_val (v := (Value.int .i64 at_)) (x_move rfl) ?_)
    refine S_list (T_val (v := (Value.agg #[(Value.int .i64 6), (Value.int .i64 0), (Value.int .i64 0), (Value.int .i64 0), (Value.int .i64 0), (Value.int .i64 0), (Value.int .i64 at_)])) (by kernel_rfl) ?_)
    refine S_list (T_new (obj := .cells #[(Value.int .i64 6), (Value.int .i64 0), (Value.int .i64 0), (Value.int .i64 0), (Value.int .i64 0), (Value.int .i64 0), (Value.int .i64 at_)] 39) (f := fun b__ => .slice (some ⟨b__, 0, none⟩) 1 1) (A := fun b__ => cl b__ 39 [(Value.int .i64 6), (Value.int .i64 0), (Value.int .i64 0), (Value.int .i64 0), (Value.int .i64 0), (Value.int .i64 0), (Value.int .i64 at_)]) (by kernel_rfl) (fun l h => h.alloc _ _) H45_ ?_)
    intro b49_ w50_ S52_ H51_
    have S53_ := Same.trans S48_ S52_
    have H54_ := ((Holds.bring H51_ 1 rfl) :)
    replace H54_ : Holds w50_ (ro R40_ :: cl b49_ 39 [(Value.int .i64 6), (Value.int .i64 0), (Value.int .i64 0), (Value.int .i64 0), (Value.int .i64 0), (Value.int .i64 0), (Value.int .i64 at_)] :: F) := H54_
    obtain ⟨R55_, hs56_, ⟨R57_, ha58_, hs59_⟩, H60_⟩ := Holds.gift H54_
    have hz_R_R55_ := Sub.trans' hz_R_R40_ hs56_
    have hz_R8__R55_ := Sub.trans' hs39_ hs56_
    have hr61_ : RS R55_ 7 (Value.slice (some ⟨b49_, 0, none⟩) 1 1) 1 [(Value.int .i64 6), (Value.int .i64 0), (Value.int .i64 0), (Value.int .i64 0), (Value.int .i64 0), (Value.int .i64 0), (Value.int .i64 at_)] := (RS.set_ (cl_RSn (sz := 7) ha58_ (Sub.rfl' _) (by rfl) (by omega)) rfl rfl).mono hs59_
    refine S_list (T_callG (al := [(Value.string (ByteArray.mk #[107])), (Value.agg #[(Value.int .i64 ((vLast L12_).rev_Main)), (Value.int .i64 ((vLast L12_).rev_Sub)), gv42_]), (Value.slice (some ⟨b49_, 0, none⟩) 1 1)]) (pre := []) rfl rfl cb8 (kKey R55_ (ByteArray.mk #[107]) ((vLast L12_).rev_Main) ((vLast L12_).rev_Sub) gv42_ (some ⟨b49_, 0, none⟩) 1 1 gN1 (sinceO at_) 301 (sinceR (vLast L12_).rev_Main (vLast L12_).rev_Sub (dGens L12_) at_) (RS.mono hgb1 hs56_) (fun x hx => (hgc1 x hx).mono hs56_) hr61_ (by show 1 ≤ 1000; decide) (hbb_) (by decide) (by rw [hga1]; exact since_run hsm_)) H60_ ?_)
    rintro R63_ v64_ p73_ w70_ hs62_ ⟨av65_, A66_, rfl, rfl, he67_, he68_, he69_⟩ S72_ H71_
    have S74_ := Same.trans S53_ S72_
    have hz_R_R63_ := Sub.trans' hz_R_R55_ hs62_
    have hz_R8__R63_ := Sub.trans' hz_R8__R55_ hs62_
    have hz_R40__R63_ := Sub.trans' hs56_ hs62_
    obtain ⟨hal_, hax_⟩ := since_at hok_ he69_
    refine S_list (T_val (v := (Value.tuple #[av65_, (Value.bool true)])) (x_move rfl) ?_)
    refine S_list (T_val (v := av65_) (by kernel_rfl) ?_)
    refine S_list (T_val (v := (Value.bool true)) (by kernel_rfl) ?_)
    refine S_list (T_val (v := av65_) (x_assign rfl) ?_)
    refine S_list (T_val (v := (Value.bool true)) (x_assign rfl) ?_)
    refine wpList_nil ?_
    refine (X_then (hK38_ _ _ ?_))
    clear hK38_
    refine C_seq (fun K75_ hK75_ => ?_)
    refine A_start (S := fun w => Sub R63_ (hp w)) (N := 20) foll rfl rfl ?_
    have H76_ := Holds.drew_ H71_
    have hq77_ := ((Holds.ro_at H76_ 0 rfl))
    refine A_tk 0 (v := (Value.bool true)) rfl (by kernel_rfl) (fun w hS => x_move rfl) hq77_ ?_
    refine A_tk 1 (v := (Value.bool true)) rfl (by kernel_rfl) (fun w hS => x_move rfl) hq77_ ?_
    refine A_tkY 2 (j := 1) (dj := 37) (b := true) (v := av65_) rfl (by kernel_rfl) rfl rfl rfl (fun w hS => x_move rfl) hq77_ ?_
    refine A_tkY 3 (j := 1) (dj := 37) (b := true) (v := (Value.int .i64 ((List.length A66_) : Int))) rfl (by kernel_rfl) rfl rfl rfl (fun w hS => x_lenRS rfl he67_ Try.underlying24) hq77_ ?_
    refine A_tkY 4 (j := 1) (dj := 37) (b := true) (v := (Value.bool (decide (((List.length A66_) : Int) = 1)))) rfl (by kernel_rfl) rfl rfl rfl (fun w hS => x_bin rfl rfl rfl) hq77_ ?_
    refine A_tk 5 (v := (Value.bool (decide (((List.length A66_) : Int) = 1)))) rfl (by kernel_rfl) (fun w hS => (x_pickT rfl rfl)) hq77_ ?_
    refine A_tk 6 (v := (Value.bool (decide (((List.length A66_) : Int) = 1)))) rfl (by kernel_rfl) (fun w hS => x_move rfl) hq77_ ?_
    rcases Bool.eq_false_or_eq_true (decide (((List.length A66_) : Int) = 1)) with c78_t | c78_f
    ·have c78_tp : ((List.length A66_) : Int) = 1 := of_decide_eq_true c78_t
     refine A_tkY 7 (j := 6) (dj := 42) (b := true) (v := av65_) rfl (by kernel_rfl) rfl rfl (congrArg Value.bool c78_t) (fun w hS => x_move rfl) hq77_ ?_
     obtain ⟨x79_, hx80_, hm81_⟩ := elem_at A66_ 0 (by omega)
     have hp82_ := he68_ x79_ hm81_
     have hxr_ := hax_ x79_ hx80_
     have hxk_ := he68_ x79_ hm81_
     have hxl_ := vSieve_len L12_ (vSinceP L12_ at_) L12_.length
     refine A_tkY 8 (j := 6) (dj := 42) (b := true) (v := (Value.pointer (some ⟨(sb av65_), so av65_ + (0 + 0), none⟩))) rfl (by kernel_rfl) rfl rfl (congrArg Value.bool c78_t) (fun w hS => x_idxRS (v := av65_) rfl he67_ rfl Try.underlying24 z43 (by omega) (by omega) (by omega : _ = 0) rfl) hq77_ ?_
     refine A_tkY 9 (j := 6) (dj := 42) (b := true) (v := (Value.pointer (some ⟨(sb av65_), so av65_ + (0 + 6), none⟩))) rfl (by kernel_rfl) rfl rfl (congrArg Value.bool c78_t) (fun w hS => by kernel_rfl) hq77_ ?_
     refine A_tkY 10 (j := 6) (dj := 42) (b := true) (v := x79_.revs) rfl (by kernel_rfl) rfl rfl (congrArg Value.bool c78_t) (fun w hS => x_load1 rfl Try.underlying41 rfl (RC.cell (RS.rc he67_) hS (j := 0 + 6) (u := x79_.revs) (fm_cell KA.len hx80_ (i := 6) rfl))) hq77_ ?_
     refine A_tkY 11 (j := 6) (dj := 42) (b := true) (v := v10_) rfl (by kernel_rfl) rfl rfl (congrArg Value.bool c78_t) (fun w hS => x_move rfl) hq77_ ?_
     refine A_tkY 12 (j := 6) (dj := 42) (b := true) (v := (Value.int .i64 at_)) rfl (by kernel_rfl) rfl rfl (congrArg Value.bool c78_t) (fun w hS => x_move rfl) hq77_ ?_
     refine A_ready (i := 13) (rs := []) (by kernel_rfl) ?_
     refine AllR.cons ?_ AllR.nil
     refine A_opYes (ls' := #[true, true, true, true, true, true, true, true, true, true, true, true, true, true, false, false, false, false, false, false]) (j := 6) (dj := 42) (b := true) rfl (by kernel_rfl) rfl rfl (congrArg Value.bool c78_t) (T_call (al := [v10_, (Value.int .i64 at_)]) (pre := []) rfl rfl cb12 (kSince R63_ v10_ L12_ at_ (RS.mono he15_ hz_R8__R63_) (by omega)) H76_ ?_)
     rintro v83_ p87_ w84_ ⟨_, rfl, rfl⟩ S86_ H85_
     replace H85_ : Holds w84_ (ro R63_ :: sl 31 2 v83_ (List.length ((vSieve L12_ (vSinceP L12_ at_) L12_.length).map VR.rv)) (((vSieve L12_ (vSinceP L12_ at_) L12_.length).map VR.rv).flatMap RV.cells) :: F) := H85_
     have S88_ := Same.trans (Same.trans S74_ (Same.drew _)) S86_
     refine ⟨((Holds.ro_at H85_ 0 rfl)), ?_⟩
     refine A_ready (i := 14) (rs := []) (by kernel_rfl) ?_
     refine AllR.cons ?_ AllR.nil
     obtain ⟨R89_, hs90_, ⟨R91_, ha92_, hs93_⟩, H94_⟩ := Holds.gift H85_
     have hz_R_R89_ := Sub.trans' hz_R_R63_ hs90_
     have hz_R8__R89_ := Sub.trans' hz_R8__R63_ hs90_
     have hz_R40__R89_ := Sub.trans' hz_R40__R63_ hs90_
     have hz_R55__R89_ := Sub.trans' hs62_ hs90_
     have hr95_ : RS R89_ 2 v83_ (List.length ((vSieve L12_ (vSinceP L12_ at_) L12_.length).map VR.rv)) (((vSieve L12_ (vSinceP L12_ at_) L12_.length).map VR.rv).flatMap RV.cells) := (sl_RS ha92_ (Sub.rfl' _)).mono hs93_
     refine A_opYes (ls' := #[true, true, true, true, true, true, true, true, true, true, true, true, true, true, true, false, false, false, false, false]) (j := 6) (dj := 42) (b := true) rfl (by kernel_rfl) rfl rfl (congrArg Value.bool c78_t) (T_call (al := [x79_.revs, v83_]) (pre := []) rfl rfl cb11 (kSameRevsB R89_ x79_.revs v83_ x79_.rl (vSince L12_ at_) (RS.mono hxk_.1 hs90_) hr95_ (by rw [hxr_]; unfold vSince; rw [List.length_map]; omega)) H94_ ?_)
     rintro v96_ p100_ w97_ ⟨rfl, rfl⟩ S99_ H98_
     have S101_ := Same.trans S88_ S99_
     refine ⟨((Sub.trans' hs90_ (Holds.ro_at H98_ 0 rfl))), ?_⟩
     have hq102_ := ((Sub.trans' hs90_ (Holds.ro_at H98_ 0 rfl)))
     refine A_tk 15 (v := (Value.bool (kRevB x79_.rl (vSince L12_ at_)))) rfl (by kernel_rfl) (fun w hS => (x_pickT (congrArg Value.bool c78_t) rfl)) hq102_ ?_
     refine A_tk 16 (v := (Value.bool (kRevB x79_.rl (vSince L12_ at_)))) rfl (by kernel_rfl) (fun w hS => x_move rfl) hq102_ ?_
     rcases Bool.eq_false_or_eq_true (kRevB x79_.rl (vSince L12_ at_)) with c103_t | c103_f
     ·skip
      refine A_ready (i := 17) (rs := []) (by kernel_rfl) ?_
      refine AllR.cons ?_ AllR.nil
      refine A_opYes (ls' := #[true, true, true, true, true, true, true, true, true, true, true, true, true, true, true, true, true, true, false, false]) (j := 16) (dj := 52) (b := true) rfl (by kernel_rfl) rfl rfl (congrArg Value.bool c103_t) (T_call (al := []) (pre := []) rfl rfl cb7 (kLive R89_) H98_ ?_)
      rintro v104_ p108_ w105_ ⟨rfl, rfl⟩ S107_ H106_
      replace H106_ : Holds w105_ (ro R89_ :: F) := H106_
      have S109_ := Same.trans S101_ S107_
      refine ⟨((Sub.trans' hs90_ (Holds.ro_at H106_ 0 rfl))), ?_⟩
      have hq110_ := ((Sub.trans' hs90_ (Holds.ro_at H106_ 0 rfl)))
      refine A_tk 18 (v := (Value.bool true)) rfl (by kernel_rfl) (fun w hS => (x_pickT (congrArg Value.bool c103_t) rfl)) hq110_ ?_
      refine A_tk 19 (v := (Value.bool true)) rfl (by kernel_rfl) (fun w hS => x_assign rfl) hq110_ ?_
      refine A_done (by kernel_rfl) ?_
      refine (X_then (hK75_ _ _ ?_))
      clear hK75_
      refine C_ret ?_
      refine R_any (v := (Value.bool true)) (run_results1 rfl rfl) ?_
      have H111_ : Holds w105_ (ro R :: F) := Holds.ro_less H106_ hz_R_R89_
      exact ⟨_, _, rfl, ⟨rfl, rfl⟩, S109_, H111_⟩
     ·skip
      rw [kRevB_t hxr_] at c103_f; cases c103_f
    ·have c78_fp : ¬ (((List.length A66_) : Int) = 1) := of_decide_eq_false c78_f
     omega
  ·skip
   have S26_ := Same.trans (Same.refl w) S22_
   refine S_list (T_val (v := (Value.tuple #[(Value.slice none 0 0), (Value.slice none 0 0), (Value.bool false)])) (x_move rfl) ?_)
   refine S_list (T_val (v := (Value.slice none 0 0)) (by kernel_rfl) ?_)
   refine S_list (T_val (v := (Value.slice none 0 0)) (by kernel_rfl) ?_)
   refine S_list (T_val (v := (Value.bool false)) (by kernel_rfl) ?_)
   refine S_list (T_val (v := (Value.slice none 0 0)) (x_assign rfl) ?_)
   refine S_list (T_val (v := (Value.slice none 0 0)) (x_assign rfl) ?_)
   refine S_list (T_val (v := (Value.bool false)) (x_assign rfl) ?_)
   refine wpList_nil ?_
   refine (X_then (hK6_ _ _ ?_))
   clear hK6_
   refine C_seq (fun K112_ hK112_ => ?_)
   refine C_seq (fun K113_ hK113_ => ?_)
   refine C_reg ?_
   refine S_list (T_val (v := (Value.bool false)) (x_move rfl) ?_)
   refine S_list (T_val (v := (Value.bool true)) (x_cast (x_not (b := false) rfl) rfl) ?_)
   refine S_list (T_val (v := (Value.bool true)) (x_move rfl) ?_)
   refine S_no (j := 2) (dj := 21) (b := true) rfl rfl rfl (by decide) ?_
   refine S_no (j := 2) (dj := 21) (b := true) rfl rfl rfl (by decide) ?_
   refine S_no (j := 2) (dj := 21) (b := true) rfl rfl rfl (by decide) ?_
   refine S_list (T_pickT (v := (Value.bool true)) rfl rfl ?_)
   refine wpList_nil ?_
   refine (X_then (hK113_ _ _ ?_))
   clear hK113_
   refine C_condT rfl ?_
   refine C_seq (fun K114_ hK114_ => ?_)
   refine C_reg ?_
   refine S_list (T_call (al := []) (pre := []) rfl rfl cb7 (kLive R8_) H21_ ?_)
   rintro v115_ p119_ w116_ ⟨rfl, rfl⟩ S118_ H117_
   have S120_ := Same.trans S26_ S118_
   refine S_list (T_val (v := (Value.bool true)) (x_assign rfl) ?_)
   refine wpList_nil ?_
   refine (X_then (hK114_ _ _ ?_))
   clear hK114_
   refine C_ret (X_thenR ?_)
   refine R_any (v := (Value.bool true)) (run_results1 rfl rfl) ?_
   have H121_ : Holds w116_ (ro R :: F) := Holds.ro_less H117_ hs7_
   exact ⟨_, _, rfl, ⟨rfl, rfl⟩, S120_, H121_⟩
end Go.Proofs.Ytiblemgccgbhoaa
