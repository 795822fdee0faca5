/- Some changes as lives. -/
import Derived.Test.YtiblemgccgbhoaaKyE0
set_option linter.unusedVariables false
set_option linter.unusedSimpArgs false
namespace Go.Proofs.Ytiblemgccgbhoaa
open Go Go.RowKit Gw

def gLast (G : List GM) : GM := G.getLast?.getD ⟨0, 0, 0, []⟩
def gAdd (g : GM) (v : VR) : GM := ⟨v.ver, g.cm, g.cs, g.l ++ [v.rv]⟩
def dStep (s : List GM × Bool) (v : VR) : List GM × Bool :=
  let G := if s.2 then s.1 else s.1 ++ [⟨0, v.created_Main, v.created_Sub, []⟩]
  (G.dropLast ++ [gAdd (gLast G) v], !v.gone)
def dGo (l : List VR) : List GM × Bool := l.foldl dStep ([], false)
theorem dGo_snoc (l : List VR) (v : VR) : dGo (l ++ [v]) = dStep (dGo l) v := by simp [dGo]
def dGens (l : List VR) : List GM := (dGo l).1 ++ (if 0 < l.length ∧ (vLast l).gone = true then [⟨0, 0, 0, []⟩] else [])
theorem gset {A : List GN} {x y : GN} {i : Nat} {v : Value} (h : (GN.cells x).set i v = GN.cells y) : ((A ++ [x]).flatMap GN.cells).set (A.length * 4 + i) v = (A ++ [y]).flatMap GN.cells := by
  rw [List.flatMap_append, List.flatMap_append, List.set_append_right _ _ (by rw [fm_len GN.len]; omega), fm_len GN.len, Nat.add_sub_cancel_left]
  simp only [List.flatMap_cons, List.flatMap_nil, List.append_nil]
  rw [h]
theorem gat (A : List GN) (x : GN) : (A ++ [x])[A.length]? = some x := by simp
theorem Tlk_some {T : List GN} {lv : Value} {ll : List RV} (h : Tlk T lv ll) (h0 : T ≠ []) : ∃ a b c, T = [⟨a, b, c, lv, ll⟩] := by
  rcases h with ⟨rfl, _, _⟩ | h
  · exact absurd rfl h0
  · exact h
theorem GOk_app {R R' : HP} {N T : List GN} {lv : Value} {ll : List RV} (hN : ∀ x ∈ N, GOk R x) (s : Sub R R') (hT : Tlk T lv ll) (h : RS R' 2 lv ll.length (ll.flatMap RV.cells)) : ∀ x ∈ N ++ T, GOk R' x := by
  intro x hx
  rcases List.mem_append.1 hx with hx | hx
  · exact (hN x hx).mono s
  · rcases hT with ⟨rfl, _, _⟩ | ⟨a, b, c, rfl⟩
    · cases hx
    · rcases List.mem_singleton.1 hx with rfl
      exact h
theorem dGo_old {N : List GN} {G : List GM × Bool} {a b c : Int} {lv lv' : Value} {ll : List RV} {x : VR} (h : ((N ++ [(⟨a, b, c, lv, ll⟩ : GN)]).map GN.m, true) = G) :
    ((N ++ [(⟨x.ver, b, c, lv', ll ++ [x.rv]⟩ : GN)]).map GN.m, !x.gone) = dStep G x := by
  rw [← h]; simp [dStep, gLast, gAdd, GN.m]
theorem dGo_new {N : List GN} {G : List GM × Bool} {lv' : Value} {x : VR} (h : (N.map GN.m, false) = G) :
    ((N ++ [(⟨x.ver, x.created_Main, x.created_Sub, lv', [] ++ [x.rv]⟩ : GN)]).map GN.m, !x.gone) = dStep G x := by
  rw [← h]; simp [dStep, gLast, gAdd, GN.m]


theorem dGens_no {L : List VR} {N : List GN} {bg : Bool} (hm : (N.map GN.m, bg) = dGo L) (h : ¬ (0 < L.length ∧ (vLast L).gone = true)) : N.map GN.m = dGens L := by
  unfold dGens
  rw [if_neg h, ← hm, List.append_nil]
theorem dGens_yes {L : List VR} {N : List GN} {bg : Bool} (hm : (N.map GN.m, bg) = dGo L) (h : 0 < L.length ∧ (vLast L).gone = true) : (N ++ [(⟨0, 0, 0, .slice none 0 0, []⟩ : GN)]).map GN.m = dGens L := by
  unfold dGens
  rw [if_pos h, ← hm]; simp [GN.m]
theorem GOk_nil {R : HP} {N : List GN} {a b c : Int} (h : ∀ x ∈ N, GOk R x) : ∀ x ∈ N ++ [(⟨a, b, c, .slice none 0 0, []⟩ : GN)], GOk R x := fun x hx => by
  rcases List.mem_append.1 hx with hx | hx
  · exact h x hx
  · rcases List.mem_singleton.1 hx with rfl
    exact RS.nil _ _

set_option maxHeartbeats 400000 in
theorem kDump (R : HP) (v : Value) (L : List VR) (hL : RS R 6 v (List.length L) (L.flatMap VR.cells)) (hl : L.length ≤ 10000) :
    TriG Try.prog 9 #[v] R [] (fun R' v__ post__ => ∃ (gv : Value), v__ = (Value.agg #[(Value.int .i64 ((vLast L).rev_Main)), (Value.int .i64 ((vLast L).rev_Sub)), gv]) ∧ post__ = [] ∧ (GS R' gv (dGens L))) := by
 refine TriG.into (n := 69) (al := [v]) Try.func9 rfl Try.ntmps9 rfl rfl fun w F H => ?_
 refine C_seq (fun K1_ hK1_ => ?_)
 refine C_reg ?_
 refine S_list (T_alloc z34 H ?_)
 intro b2_ w3_ S5_ H4_
 have S6_ := Same.trans (Same.refl w) S5_
 refine wpList_nil ?_
 refine (X_then (hK1_ _ _ ?_))
 clear hK1_
 refine C_seq (fun K7_ hK7_ => ?_)
 refine C_reg ?_
 refine S_list (T_val (v := v) (x_move rfl) ?_)
 have H9_ := ((Holds.bring H4_ 1 rfl) :)
 replace H9_ : Holds w3_ (ro R :: cl b2_ 34 [(Value.int .i64 0), (Value.int .i64 0), (Value.slice none 0 0)] :: F) := H9_
 refine S_list (T_call (al := [v]) (pre := []) rfl rfl cb17 (kModified R v L (RS.set_ hL rfl (by first | rfl | (simp [RV.cells, VR.rv, GN.cells]; done) | (simp; omega))) (by first | assumption | omega)) H9_ ?_)
 rintro v8_ p13_ w10_ ⟨rfl, rfl⟩ S12_ H11_
 have S14_ := Same.trans S6_ S12_
 refine S_list (T_val (v := (Value.agg #[(Value.int .i64 ((vLast L).rev_Main)), (Value.int .i64 ((vLast L).rev_Sub)), (Value.slice none 0 0)])) (by kernel_rfl) ?_)
 refine S_list (T_alloc z34 H11_ ?_)
 intro b15_ w16_ S18_ H17_
 have S19_ := Same.trans S14_ S18_
 refine S_list0 (T_storeN (vs := [(Value.int .i64 ((vLast L).rev_Main)), (Value.int .i64 ((vLast L).rev_Sub)), (Value.slice none 0 0)]) rfl rfl z34 rfl (by simp [Value.oneCell']) H17_ 0 rfl (Nat.le_of_ble_eq_true (by rfl)) ?_)
 intro w20_ S22_ H21_
 replace H21_ : Holds w20_ (cl b15_ 34 [(Value.int .i64 ((vLast L).rev_Main)), (Value.int .i64 ((vLast L).rev_Sub)), (Value.slice none 0 0)] :: ro R :: cl b2_ 34 [(Value.int .i64 0), (Value.int .i64 0), (Value.slice none 0 0)] :: F) := H21_
 have S23_ := Same.trans S19_ S22_
 refine wpList_nil ?_
 refine (X_then (hK7_ _ _ ?_))
 clear hK7_
 refine C_seq (fun K24_ hK24_ => ?_)
 refine C_reg ?_
 refine S_list (T_val (v := (Value.bool false)) (x_assign rfl) ?_)
 refine wpList_nil ?_
 refine (X_then (hK24_ _ _ ?_))
 clear hK24_
 refine C_seq (fun K25_ hK25_ => ?_)
 refine C_seq (fun K26_ hK26_ => ?_)
 refine C_reg ?_
 refine S_list (T_val (v := v) (x_move rfl) ?_)
 refine S_list (T_val (v := (Value.int .i64 ((List.length L) : Int))) (x_lenRS rfl hL Try.underlying23) ?_)
 refine S_list (T_val (v := (Value.int .i64 0)) (x_move rfl) ?_)
 refine wpList_nil ?_
 refine (X_then (hK26_ _ _ ?_))
 clear hK26_
 refine C_block ?_
 have H27_ : Holds w20_ (sl 68 4 (Value.slice none 0 0) (List.length (([] : List GN) ++ ([] : List GN))) ((([] : List GN) ++ ([] : List GN)).flatMap GN.cells) :: cl b15_ 34 [(Value.int .i64 ((vLast L).rev_Main)), (Value.int .i64 ((vLast L).rev_Sub)), (Value.slice none 0 0)] :: ro R :: cl b2_ 34 [(Value.int .i64 0), (Value.int .i64 0), (Value.slice none 0 0)] :: F) := Holds.add_nil H21_ 68 4
 have H28_ : Holds w20_ (sl 31 2 (Value.slice none 0 0) (List.length ([] : List RV)) (([] : List RV).flatMap RV.cells) :: sl 68 4 (Value.slice none 0 0) (List.length (([] : List GN) ++ ([] : List GN))) ((([] : List GN) ++ ([] : List GN)).flatMap GN.cells) :: cl b15_ 34 [(Value.int .i64 ((vLast L).rev_Main)), (Value.int .i64 ((vLast L).rev_Sub)), (Value.slice none 0 0)] :: ro R :: cl b2_ 34 [(Value.int .i64 0), (Value.int .i64 0), (Value.slice none 0 0)] :: F) := Holds.add_nil H27_ 31 2
 have H29_ := Holds.recl H28_ 2 rfl ((lcons rfl (lcons rfl (lcons (rfl : (Value.slice none 0 0) = ((Value.slice none 0 0))) rfl))) : [(Value.int .i64 ((vLast L).rev_Main)), (Value.int .i64 ((vLast L).rev_Sub)), (Value.slice none 0 0)] = [(Value.int .i64 ((vLast L).rev_Main)), (Value.int .i64 ((vLast L).rev_Sub)), ((Value.slice none 0 0))])
 refine C_loop (γ := HP × Nat × (List GN) × (List GN) × Value × Value × (List RV) × Bool) (fun x__ a__ w1__ => match x__ with | ⟨R1, k, N0, T, gv, lv, ll, bg⟩ => ∃ h : Env, a__ = mkA 69 (upd (upd (upd (upd (upd (upd (upd h 0 v) 2 (Value.pointer (some ⟨b2_, 0, none⟩))) 3 (Value.pointer (some ⟨b15_, 0, none⟩))) 4 (Value.bool bg)) 11 v) 12 (Value.int .i64 ((List.length L) : Int))) 13 (Value.int .i64 (k : Int))) [] ∧ Holds w1__ (sl 31 2 lv (List.length ll) (ll.flatMap RV.cells) :: sl 68 4 gv (List.length (N0 ++ T)) ((N0 ++ T).flatMap GN.cells) :: cl b15_ 34 [(Value.int .i64 ((vLast L).rev_Main)), (Value.int .i64 ((vLast L).rev_Sub)), gv] :: ro R1 :: cl b2_ 34 [(Value.int .i64 0), (Value.int .i64 0), (Value.slice none 0 0)] :: F) ∧ Same w w1__ ∧ (Sub R R1) ∧ (k ≤ L.length) ∧ (((N0 ++ T).map GN.m, bg) = dGo (L.take k)) ∧ (∀ x ∈ N0, GOk R1 x) ∧ (Tlk T lv ll) ∧ (bg = true → T ≠ []) ∧ ((N0 ++ T).length ≤ k ∧ ll.length ≤ k)) (fun x__ => match x__ with | ⟨R1, k, N0, T, gv, lv, ll, bg⟩ => L.length - k) (⟨R, 0, ([] : List GN), ([] : List GN), (Value.slice none 0 0), (Value.slice none 0 0), ([] : List RV), false⟩) ⟨_, congrArg (fun e => mkA 69 e []) (ch (ch (ch (ch (ch (ch (ch rfl rfl) rfl) rfl) rfl) rfl) rfl) (congrArg (Value.int .i64) ((by first | rfl | omega | (simp; done) | (simp; omega)) : 0 = (0 : Int)))), H29_, S23_, (Sub.rfl' _), (by first | assumption | omega | exact rfl), (rfl), (fun x hx => by cases hx), (Or.inl ⟨rfl, rfl, rfl⟩), (fun h => by cases h), (⟨by simp, by simp⟩)⟩ ?_
 rintro ⟨R1, k, N0, T, gv, lv, ll, bg⟩ _ w30_ ⟨h, rfl, H31_, S32_, hsR1, hk, hm, hN, hT, hb, hc⟩
 refine C_seq (fun K33_ hK33_ => ?_)
 refine C_reg ?_
 refine S_list (T_val (v := (Value.bool (decide ((k : Int) < ((List.length L) : Int))))) (x_bin rfl rfl rfl) ?_)
 refine wpList_nil ?_
 refine (X_then (hK33_ _ _ ?_))
 clear hK33_
 refine C_seq (fun K34_ hK34_ => ?_)
 refine C_cond (b := decide ((k : Int) < ((List.length L) : Int))) rfl (fun c35_t => ?_) (fun c35_f => ?_)
 ·have c35_tp : (k : Int) < ((List.length L) : Int) := of_decide_eq_true c35_t
  refine C_skip (X_then (hK34_ _ _ ?_))
  clear hK34_
  refine C_seq (fun K36_ hK36_ => ?_)
  refine C_block ?_
  refine C_seq (fun K37_ hK37_ => ?_)
  refine C_reg ?_
  obtain ⟨x38_, hx39_, hm40_⟩ := elem_at L k (by omega)
  refine S_list (T_val (v := (Value.pointer (some ⟨(sb v), so v + (k * 6 + 0), none⟩))) (x_idxRS (v := v) rfl (RS.mono hL hsR1) rfl Try.underlying23 z66 (by omega) (by omega) (by omega : _ = k) rfl) ?_)
  refine S_list (T_val (v := (Value.agg #[(Value.int .i64 x38_.rev_Main), (Value.int .i64 x38_.rev_Sub), (Value.int .i64 x38_.created_Main), (Value.int .i64 x38_.created_Sub), (Value.int .i64 x38_.ver), (Value.bool x38_.gone)])) (x_loadN (vs := [(Value.int .i64 x38_.rev_Main), (Value.int .i64 x38_.rev_Sub), (Value.int .i64 x38_.created_Main), (Value.int .i64 x38_.created_Sub), (Value.int .i64 x38_.ver), (Value.bool x38_.gone)]) rfl Try.underlying66 rfl z66 rfl (RC.cells (RS.rc (RS.mono hL hsR1)) (Holds.ro_at H31_ 3 rfl) (k * 6 + 0) (fm_cells VR.len hx39_ (i := 0) rfl))) ?_)
  refine S_list (T_alloc z66 H31_ ?_)
  intro b41_ w42_ S44_ H43_
  have S45_ := Same.trans S32_ S44_
  refine S_list0 (T_storeN (vs := [(Value.int .i64 x38_.rev_Main), (Value.int .i64 x38_.rev_Sub), (Value.int .i64 x38_.created_Main), (Value.int .i64 x38_.created_Sub), (Value.int .i64 x38_.ver), (Value.bool x38_.gone)]) rfl rfl z66 rfl (by simp [Value.oneCell']) H43_ 0 rfl (Nat.le_of_ble_eq_true (by rfl)) ?_)
  intro w46_ S48_ H47_
  have S49_ := Same.trans S45_ S48_
  refine wpList_nil ?_
  refine (X_then (hK37_ _ _ ?_))
  clear hK37_
  refine C_seq (fun K50_ hK50_ => ?_)
  refine C_seq (fun K51_ hK51_ => ?_)
  refine C_reg ?_
  refine S_list (T_val (v := (Value.bool bg)) (x_move rfl) ?_)
  refine S_list (T_val (v := (Value.bool (!bg))) (x_not rfl) ?_)
  refine wpList_nil ?_
  refine (X_then (hK51_ _ _ ?_))
  clear hK51_
  refine C_cond (b := !bg) rfl (fun c52_t => ?_) (fun c52_f => ?_)
  ·skip
   refine C_reg ?_
   have H53_ := ((Holds.bring (Holds.bring H47_ 1 rfl) 4 rfl) :)
   replace H53_ : Holds w46_ (ro R1 :: sl 31 2 lv (List.length ll) (ll.flatMap RV.cells) :: cl b41_ 66 [(Value.int .i64 x38_.rev_Main), (Value.int .i64 x38_.rev_Sub), (Value.int .i64 x38_.created_Main), (Value.int .i64 x38_.created_Sub), (Value.int .i64 x38_.ver), (Value.bool x38_.gone)] :: sl 68 4 gv (List.length (N0 ++ T)) ((N0 ++ T).flatMap GN.cells) :: cl b15_ 34 [(Value.int .i64 ((vLast L).rev_Main)), (Value.int .i64 ((vLast L).rev_Sub)), gv] :: cl b2_ 34 [(Value.int .i64 0), (Value.int .i64 0), (Value.slice none 0 0)] :: F) := H53_
   obtain ⟨R54_, hs55_, ⟨R56_, ha57_, hs58_⟩, H59_⟩ := Holds.gift H53_
   have hz_R_R54_ := Sub.trans' hsR1 hs55_
   have hr60_ : RS R54_ 2 lv (List.length ll) (ll.flatMap RV.cells) := (sl_RS ha57_ (Sub.rfl' _)).mono hs58_
   have H61_ : Holds w46_ (sl 31 2 (Value.slice none 0 0) (List.length ([] : List RV)) (([] : List RV).flatMap RV.cells) :: ro R54_ :: cl b41_ 66 [(Value.int .i64 x38_.rev_Main), (Value.int .i64 x38_.rev_Sub), (Value.int .i64 x38_.created_Main), (Value.int .i64 x38_.created_Sub), (Value.int .i64 x38_.ver), (Value.bool x38_.gone)] :: sl 68 4 gv (List.length (N0 ++ T)) ((N0 ++ T).flatMap GN.cells) :: cl b15_ 34 [(Value.int .i64 ((vLast L).rev_Main)), (Value.int .i64 ((vLast L).rev_Sub)), gv] :: cl b2_ 34 [(Value.int .i64 0), (Value.int .i64 0), (Value.slice none 0 0)] :: F) := Holds.add_nil H59_ 31 2
   refine S_list (T_val (v := (Value.pointer (some ⟨b15_, 2, none⟩))) (by kernel_rfl) ?_)
   refine S_list (T_val (v := gv) (x_load1 rfl Try.underlying32 rfl ((Holds.rd H61_ 4 rfl) 2 gv rfl)) ?_)
   refine S_list (T_val (v := (Value.pointer (some ⟨b41_, 2, none⟩))) (by kernel_rfl) ?_)
   refine S_list (T_val (v := (Value.agg #[(Value.int .i64 x38_.created_Main), (Value.int .i64 x38_.created_Sub)])) (x_loadN (vs := [(Value.int .i64 x38_.created_Main), (Value.int .i64 x38_.created_Sub)]) rfl Try.underlying31 rfl z31 rfl (Rd.cells (Holds.rd H61_ 2 rfl) 2 rfl)) ?_)
   refine S_list (T_val (v := (Value.agg #[(Value.int .i64 0), (Value.int .i64 x38_.created_Main), (Value.int .i64 x38_.created_Sub), (Value.slice none 0 0)])) (by kernel_rfl) ?_)
   refine S_list (T_new (obj := .cells #[(Value.int .i64 0), (Value.int .i64 x38_.created_Main), (Value.int .i64 x38_.created_Sub), (Value.slice none 0 0)] 68) (f := fun b__ => .slice (some ⟨b__, 0, none⟩) 1 1) (A := fun b__ => cl b__ 68 [(Value.int .i64 0), (Value.int .i64 x38_.created_Main), (Value.int .i64 x38_.created_Sub), (Value.slice none 0 0)]) (by kernel_rfl) (fun l h => h.alloc _ _) H61_ ?_)
   intro b62_ w63_ S65_ H64_
   have S66_ := Same.trans S49_ S65_
   refine S_list (T_append rfl rfl Try.underlying32 z68 rfl (by decide) H64_ 4 rfl (Holds.cl_src H64_ 0 rfl Try.underlying32 (by simp [Value.oneCell']) rfl) (by first | omega | (simp only [List.length_append, List.length_cons, List.length_nil]; omega)) ?_)
   intro v67_ w68_ S70_ H69_
   replace H69_ : Holds w68_ (cl b62_ 68 [(Value.int .i64 0), (Value.int .i64 x38_.created_Main), (Value.int .i64 x38_.created_Sub), (Value.slice none 0 0)] :: sl 31 2 (Value.slice none 0 0) (List.length ([] : List RV)) (([] : List RV).flatMap RV.cells) :: ro R54_ :: cl b41_ 66 [(Value.int .i64 x38_.rev_Main), (Value.int .i64 x38_.rev_Sub), (Value.int .i64 x38_.created_Main), (Value.int .i64 x38_.created_Sub), (Value.int .i64 x38_.ver), (Value.bool x38_.gone)] :: sl 68 4 v67_ ((List.length (N0 ++ T)) + 1) (((N0 ++ T).flatMap GN.cells) ++ [(Value.int .i64 0), (Value.int .i64 x38_.created_Main), (Value.int .i64 x38_.created_Sub), (Value.slice none 0 0)]) :: cl b15_ 34 [(Value.int .i64 ((vLast L).rev_Main)), (Value.int .i64 ((vLast L).rev_Sub)), gv] :: cl b2_ 34 [(Value.int .i64 0), (Value.int .i64 0), (Value.slice none 0 0)] :: F) := H69_
   have S71_ := Same.trans S66_ S70_
   refine S_list (T_val (v := (Value.pointer (some ⟨b15_, 2, none⟩))) (by kernel_rfl) ?_)
   refine S_list0 (T_store1 (v := v67_) rfl rfl z32 (Holds.sl_one H69_ 4 rfl) H69_ 5 rfl (Nat.le_of_ble_eq_true (by rfl)) ?_)
   intro w72_ S74_ H73_
   have S75_ := Same.trans S71_ S74_
   refine wpList_nil ?_
   refine (X_then (hK50_ _ _ ?_))
   clear hK50_
   refine C_seq (fun K76_ hK76_ => ?_)
   refine C_reg ?_
   have hbg_ : bg = false := by simpa using c52_t
   have H77_ := Holds.resl H73_ 4 rfl (by simp [GN.cells] : ((N0 ++ T).flatMap GN.cells) ++ [(Value.int .i64 0), (Value.int .i64 x38_.created_Main), (Value.int .i64 x38_.created_Sub), (Value.slice none 0 0)] = ((N0 ++ T) ++ [(⟨0, x38_.created_Main, x38_.created_Sub, (Value.slice none 0 0), ([] : List RV)⟩ : GN)]).flatMap GN.cells) (by simp : (List.length (N0 ++ T)) + 1 = (List.length (N0 ++ T) + 1))
   have hc_ := hc
   simp only [List.length_append, List.length_cons, List.length_nil] at hc_
   have hm_ := hm
   rw [hbg_] at hm_
   refine S_list (T_val (v := (Value.pointer (some ⟨b15_, 2, none⟩))) (by kernel_rfl) ?_)
   refine S_list (T_val (v := v67_) (x_load1 rfl Try.underlying32 rfl ((Holds.rd H77_ 5 rfl) 2 v67_ rfl)) ?_)
   refine S_list (T_val (v := (Value.pointer (some ⟨b15_, 2, none⟩))) (by kernel_rfl) ?_)
   refine S_list (T_val (v := v67_) (x_load1 rfl Try.underlying32 rfl ((Holds.rd H77_ 5 rfl) 2 v67_ rfl)) ?_)
   refine S_list (T_val (v := (Value.int .i64 ((List.length (N0 ++ T) + 1) : Int))) (x_lenSl rfl H77_ 4 rfl Try.underlying32) ?_)
   refine S_list (T_val (v := (Value.int .i64 (((List.length (N0 ++ T) + 1) : Int) - 1))) (x_bin rfl rfl (ib_sub (IntWalk.i64_in _ (by omega)))) ?_)
   have hr78_ := Holds.sl_RSw H77_ 4 rfl
   refine S_list (T_val (v := (Value.pointer (some ⟨(sb v67_), so v67_ + ((List.length (N0 ++ T)) * 4 + 0), none⟩))) (x_idxSlR (v := v67_) rfl hr78_ rfl Try.underlying32 z68 (by omega) (by omega) (by omega : _ = List.length (N0 ++ T)) rfl) ?_)
   refine S_list (T_val (v := (Value.pointer (some ⟨(sb v67_), so v67_ + ((List.length (N0 ++ T)) * 4 + 0), none⟩))) (x_assign rfl) ?_)
   refine wpList_nil ?_
   refine (X_then (hK76_ _ _ ?_))
   clear hK76_
   refine C_seq (fun K79_ hK79_ => ?_)
   refine C_reg ?_
   refine S_list (T_val (v := (Value.pointer (some ⟨(sb v67_), so v67_ + ((List.length (N0 ++ T)) * 4 + 0), none⟩))) (x_move rfl) ?_)
   refine S_list (T_val (v := (Value.pointer (some ⟨b41_, 4, none⟩))) (by kernel_rfl) ?_)
   refine S_list (T_val (v := (Value.int .i64 x38_.ver)) (x_load1 rfl Try.underlying2 rfl ((Holds.rd H77_ 3 rfl) 4 (Value.int .i64 x38_.ver) rfl)) ?_)
   refine S_list (T_val (v := (Value.pointer (some ⟨(sb v67_), so v67_ + ((List.length (N0 ++ T)) * 4 + 0), none⟩))) (by kernel_rfl) ?_)
   refine S_list (T_val (v := (Value.pointer (some ⟨(sb v67_), so v67_ + ((List.length (N0 ++ T)) * 4 + 0), none⟩))) (by kernel_rfl) ?_)
   refine S_list0 (T_storeSl (v := v67_) (u := (Value.int .i64 x38_.ver)) rfl rfl z2 rfl H77_ 4 rfl (by first | omega | (rw [fm_len GN.len]; simp only [List.length_append, List.length_cons, List.length_nil]; omega)) rfl rfl ?_)
   intro w80_ S82_ H81_
   have S83_ := Same.trans S75_ S82_
   have H84_ := Holds.resl H81_ 4 rfl (gset rfl : List.set (((N0 ++ T) ++ [(⟨0, x38_.created_Main, x38_.created_Sub, (Value.slice none 0 0), ([] : List RV)⟩ : GN)]).flatMap GN.cells) ((List.length (N0 ++ T)) * 4 + 0) (Value.int .i64 x38_.ver) = ((N0 ++ T) ++ [(⟨x38_.ver, x38_.created_Main, x38_.created_Sub, (Value.slice none 0 0), ([] : List RV)⟩ : GN)]).flatMap GN.cells) (rfl : (List.length (N0 ++ T) + 1) = (List.length (N0 ++ T) + 1))
   refine wpList_nil ?_
   refine (X_then (hK79_ _ _ ?_))
   clear hK79_
   refine C_seq (fun K85_ hK85_ => ?_)
   refine A_start (S := fun w => Rd b41_ [(Value.int .i64 x38_.rev_Main), (Value.int .i64 x38_.rev_Sub), (Value.int .i64 x38_.created_Main), (Value.int .i64 x38_.created_Sub), (Value.int .i64 x38_.ver), (Value.bool x38_.gone)] w ∧ Sub R54_ (hp w)) (N := 12) foll rfl rfl ?_
   have H86_ := Holds.drew_ H84_
   have hq87_ := And.intro (Holds.rd H86_ 3 rfl) ((Holds.ro_at H86_ 2 rfl))
   refine A_tk 0 (v := (Value.pointer (some ⟨(sb v67_), so v67_ + ((List.length (N0 ++ T)) * 4 + 0), none⟩))) rfl (by kernel_rfl) (fun w hS => x_move rfl) hq87_ ?_
   refine A_tk 1 (v := (Value.pointer (some ⟨(sb v67_), so v67_ + ((List.length (N0 ++ T)) * 4 + 0), none⟩))) rfl (by kernel_rfl) (fun w hS => x_move rfl) hq87_ ?_
   refine A_tk 2 (v := (Value.pointer (some ⟨(sb v67_), so v67_ + ((List.length (N0 ++ T)) * 4 + 0), none⟩))) rfl (by kernel_rfl) (fun w hS => by kernel_rfl) hq87_ ?_
   refine A_tk 3 (v := (Value.pointer (some ⟨(sb v67_), so v67_ + ((List.length (N0 ++ T)) * 4 + 3), none⟩))) rfl (by kernel_rfl) (fun w hS => by kernel_rfl) hq87_ ?_
   refine A_tk 5 (v := (Value.pointer (some ⟨b41_, 0, none⟩))) rfl (by kernel_rfl) (fun w hS => by kernel_rfl) hq87_ ?_
   refine A_tk 6 (v := (Value.agg #[(Value.int .i64 x38_.rev_Main), (Value.int .i64 x38_.rev_Sub)])) rfl (by kernel_rfl) (fun w hS => x_loadN (vs := [(Value.int .i64 x38_.rev_Main), (Value.int .i64 x38_.rev_Sub)]) rfl Try.underlying31 rfl z31 rfl (Rd.cells hS.1 0 rfl)) hq87_ ?_
   refine A_ready (i := 4) (rs := [7]) (by kernel_rfl) ?_
   refine AllR.cons ?_ ?_
   ·skip
    refine A_op (ls' := #[true, true, true, true, true, true, true, false, false, false, false, false]) rfl (by kernel_rfl) (T_val (v := ((Value.slice none 0 0))) (x_load1 rfl Try.underlying41 rfl ((Holds.slrd H86_ 4 rfl) _ _ (fm_cell GN.len (gat _ _) (i := 3) rfl))) ?_)
    refine ⟨⟨Holds.rd H86_ 3 rfl, (Holds.ro_at H86_ 2 rfl)⟩, ?_⟩
    refine A_ready (i := 7) (rs := []) (by kernel_rfl) ?_
    refine AllR.cons ?_ AllR.nil
    refine A_op (ls' := #[true, true, true, true, true, true, true, true, false, false, false, false]) rfl (by kernel_rfl) (T_new (obj := .cells #[(Value.int .i64 x38_.rev_Main), (Value.int .i64 x38_.rev_Sub)] 31) (f := fun b__ => .slice (some ⟨b__, 0, none⟩) 1 1) (A := fun b__ => cl b__ 31 [(Value.int .i64 x38_.rev_Main), (Value.int .i64 x38_.rev_Sub)]) (by kernel_rfl) (fun l h => h.alloc _ _) H86_ ?_)
    intro b88_ w89_ S91_ H90_
    have S92_ := Same.trans (Same.trans S83_ (Same.drew _)) S91_
    refine ⟨⟨Holds.rd H90_ 4 rfl, (Holds.ro_at H90_ 3 rfl)⟩, ?_⟩
    refine A_ready (i := 8) (rs := []) (by kernel_rfl) ?_
    refine AllR.cons ?_ AllR.nil
    refine A_op (ls' := #[true, true, true, true, true, true, true, true, true, false, false, false]) rfl (by kernel_rfl) (T_append rfl rfl Try.underlying41 z31 rfl (by decide) H90_ 2 rfl (Holds.cl_src H90_ 0 rfl Try.underlying41 (by simp [Value.oneCell']) rfl) (by first | omega | (simp only [List.length_append, List.length_cons, List.length_nil]; omega)) ?_)
    intro v93_ w94_ S96_ H95_
    replace H95_ : Holds w94_ (cl b88_ 31 [(Value.int .i64 x38_.rev_Main), (Value.int .i64 x38_.rev_Sub)] :: cl b62_ 68 [(Value.int .i64 0), (Value.int .i64 x38_.created_Main), (Value.int .i64 x38_.created_Sub), (Value.slice none 0 0)] :: sl 31 2 v93_ ((List.length ([] : List RV)) + 1) ((([] : List RV).flatMap RV.cells) ++ [(Value.int .i64 x38_.rev_Main), (Value.int .i64 x38_.rev_Sub)]) :: ro R54_ :: cl b41_ 66 [(Value.int .i64 x38_.rev_Main), (Value.int .i64 x38_.rev_Sub), (Value.int .i64 x38_.created_Main), (Value.int .i64 x38_.created_Sub), (Value.int .i64 x38_.ver), (Value.bool x38_.gone)] :: sl 68 4 v67_ (List.length (N0 ++ T) + 1) (((N0 ++ T) ++ [(⟨x38_.ver, x38_.created_Main, x38_.created_Sub, (Value.slice none 0 0), ([] : List RV)⟩ : GN)]).flatMap GN.cells) :: cl b15_ 34 [(Value.int .i64 ((vLast L).rev_Main)), (Value.int .i64 ((vLast L).rev_Sub)), v67_] :: cl b2_ 34 [(Value.int .i64 0), (Value.int .i64 0), (Value.slice none 0 0)] :: F) := H95_
    have S97_ := Same.trans S92_ S96_
    refine ⟨⟨Holds.rd H95_ 4 rfl, (Holds.ro_at H95_ 3 rfl)⟩, ?_⟩
    have hq98_ := And.intro (Holds.rd H95_ 4 rfl) ((Holds.ro_at H95_ 3 rfl))
    refine A_tk 9 (v := (Value.pointer (some ⟨(sb v67_), so v67_ + ((List.length (N0 ++ T)) * 4 + 0), none⟩))) rfl (by kernel_rfl) (fun w hS => by kernel_rfl) hq98_ ?_
    refine A_tk 10 (v := (Value.pointer (some ⟨(sb v67_), so v67_ + ((List.length (N0 ++ T)) * 4 + 3), none⟩))) rfl (by kernel_rfl) (fun w hS => by kernel_rfl) hq98_ ?_
    refine A_ready (i := 11) (rs := []) (by kernel_rfl) ?_
    refine AllR.cons ?_ AllR.nil
    refine A_op0 (ls' := #[true, true, true, true, true, true, true, true, true, true, true, true]) rfl (by kernel_rfl) (T_storeSl (v := v67_) (u := v93_) rfl rfl z41 (Holds.sl_one H95_ 2 rfl) H95_ 5 rfl (by first | omega | (rw [fm_len GN.len]; simp only [List.length_append, List.length_cons, List.length_nil]; omega)) rfl rfl ?_)
    intro w99_ S101_ H100_
    have S102_ := Same.trans S97_ S101_
    have H103_ := Holds.resl H100_ 5 rfl (gset rfl : List.set (((N0 ++ T) ++ [(⟨x38_.ver, x38_.created_Main, x38_.created_Sub, (Value.slice none 0 0), ([] : List RV)⟩ : GN)]).flatMap GN.cells) ((List.length (N0 ++ T)) * 4 + 3) v93_ = ((N0 ++ T) ++ [(⟨x38_.ver, x38_.created_Main, x38_.created_Sub, v93_, (([] : List RV) ++ [x38_.rv])⟩ : GN)]).flatMap GN.cells) (rfl : (List.length (N0 ++ T) + 1) = (List.length (N0 ++ T) + 1))
    refine ⟨⟨Holds.rd H103_ 4 rfl, (Holds.ro_at H103_ 3 rfl)⟩, ?_⟩
    refine A_done (by kernel_rfl) ?_
    refine (X_then (hK85_ _ _ ?_))
    clear hK85_
    refine C_reg ?_
    refine S_list (T_val (v := (Value.pointer (some ⟨b41_, 5, none⟩))) (by kernel_rfl) ?_)
    refine S_list (T_val (v := (Value.bool x38_.gone)) (x_load1 rfl Try.underlying4 rfl ((Holds.rd H103_ 4 rfl) 5 (Value.bool x38_.gone) rfl)) ?_)
    refine S_list (T_val (v := (Value.bool (!x38_.gone))) (x_not rfl) ?_)
    refine S_list (T_val (v := (Value.bool (!x38_.gone))) (x_assign rfl) ?_)
    refine wpList_nil ?_
    refine (X_blkN (X_then (hK36_ _ _ ?_)))
    clear hK36_
    refine C_reg ?_
    refine S_list (T_val (v := (Value.int .i64 ((k : Int) + 1))) (x_bin rfl rfl (ib_add (IntWalk.i64_in _ (by omega)))) ?_)
    refine S_list (T_val (v := (Value.int .i64 ((k : Int) + 1))) (x_move rfl) ?_)
    refine wpList_nil ?_
    refine (X_then ?_)
    have H104_ := Holds.resl H103_ 2 rfl ((by first | rfl | (simp [RV.cells, VR.rv, GN.cells]; done) | (simp; omega)) : (([] : List RV).flatMap RV.cells) ++ [(Value.int .i64 x38_.rev_Main), (Value.int .i64 x38_.rev_Sub)] = (([] : List RV) ++ [x38_.rv]).flatMap RV.cells) ((by first | rfl | (simp [RV.cells, VR.rv, GN.cells]; done) | (simp; omega)) : (List.length ([] : List RV)) + 1 = (List.length (([] : List RV) ++ [x38_.rv])))
    have H105_ := Holds.resl H104_ 5 rfl ((by first | rfl | (simp [RV.cells, VR.rv, GN.cells]; done) | (simp; omega)) : ((N0 ++ T) ++ [(⟨x38_.ver, x38_.created_Main, x38_.created_Sub, v93_, (([] : List RV) ++ [x38_.rv])⟩ : GN)]).flatMap GN.cells = ((N0 ++ T) ++ [(⟨x38_.ver, x38_.created_Main, x38_.created_Sub, v93_, (([] : List RV) ++ [x38_.rv])⟩ : GN)]).flatMap GN.cells) ((by first | rfl | (simp [RV.cells, VR.rv, GN.cells]; done) | (simp; omega)) : (List.length (N0 ++ T) + 1) = (List.length ((N0 ++ T) ++ [(⟨x38_.ver, x38_.created_Main, x38_.created_Sub, v93_, (([] : List RV) ++ [x38_.rv])⟩ : GN)])))
    have H106_ : Holds w99_ (sl 31 2 v93_ (List.length (([] : List RV) ++ [x38_.rv])) ((([] : List RV) ++ [x38_.rv]).flatMap RV.cells) :: sl 68 4 v67_ (List.length ((N0 ++ T) ++ [(⟨x38_.ver, x38_.created_Main, x38_.created_Sub, v93_, (([] : List RV) ++ [x38_.rv])⟩ : GN)])) (((N0 ++ T) ++ [(⟨x38_.ver, x38_.created_Main, x38_.created_Sub, v93_, (([] : List RV) ++ [x38_.rv])⟩ : GN)]).flatMap GN.cells) :: cl b15_ 34 [(Value.int .i64 ((vLast L).rev_Main)), (Value.int .i64 ((vLast L).rev_Sub)), v67_] :: ro R54_ :: cl b2_ 34 [(Value.int .i64 0), (Value.int .i64 0), (Value.slice none 0 0)] :: F) := (Holds.pkF H105_ [2, 4, 4, 2, 3] 3 :)
    exact ⟨⟨R54_, k + 1, (N0 ++ T), [(⟨x38_.ver, x38_.created_Main, x38_.created_Sub, v93_, (([] : List RV) ++ [x38_.rv])⟩ : GN)], v67_, v93_, (([] : List RV) ++ [x38_.rv]), !x38_.gone⟩, ⟨_, congrArg (fun e => mkA 69 e []) (ch (ch (ch (ch (ch (ch (ch rfl rfl) rfl) rfl) rfl) rfl) rfl) (congrArg (Value.int .i64) ((by first | rfl | omega | (simp; done) | (simp; omega)) : (k : Int) + 1 = ((k + 1 : Nat) : Int)))), H106_, S102_, (hz_R_R54_), (by first | assumption | omega | exact rfl), (by rw [rv_take_snoc hx39_, dGo_snoc]; exact dGo_new hm_), (GOk_app hN hs55_ hT hr60_), (Or.inr ⟨_, _, _, rfl⟩), (fun _ h => by cases h), (by simp_all; omega)⟩, by first | omega | (dsimp only; omega) | (simp; omega)⟩
   refine AllR.cons ?_ AllR.nil
   refine A_op (ls' := #[true, true, true, true, false, true, true, true, false, false, false, false]) rfl (by kernel_rfl) (T_new (obj := .cells #[(Value.int .i64 x38_.rev_Main), (Value.int .i64 x38_.rev_Sub)] 31) (f := fun b__ => .slice (some ⟨b__, 0, none⟩) 1 1) (A := fun b__ => cl b__ 31 [(Value.int .i64 x38_.rev_Main), (Value.int .i64 x38_.rev_Sub)]) (by kernel_rfl) (fun l h => h.alloc _ _) H86_ ?_)
   intro b107_ w108_ S110_ H109_
   have S111_ := Same.trans (Same.trans S83_ (Same.drew _)) S110_
   refine ⟨⟨Holds.rd H109_ 4 rfl, (Holds.ro_at H109_ 3 rfl)⟩, ?_⟩
   refine A_ready (i := 4) (rs := []) (by kernel_rfl) ?_
   refine AllR.cons ?_ AllR.nil
   refine A_op (ls' := #[true, true, true, true, true, true, true, true, false, false, false, false]) rfl (by kernel_rfl) (T_val (v := ((Value.slice none 0 0))) (x_load1 rfl Try.underlying41 rfl ((Holds.slrd H109_ 5 rfl) _ _ (fm_cell GN.len (gat _ _) (i := 3) rfl))) ?_)
   refine ⟨⟨Holds.rd H109_ 4 rfl, (Holds.ro_at H109_ 3 rfl)⟩, ?_⟩
   refine A_ready (i := 8) (rs := []) (by kernel_rfl) ?_
   refine AllR.cons ?_ AllR.nil
   refine A_op (ls' := #[true, true, true, true, true, true, true, true, true, false, false, false]) rfl (by kernel_rfl) (T_append rfl rfl Try.underlying41 z31 rfl (by decide) H109_ 2 rfl (Holds.cl_src H109_ 0 rfl Try.underlying41 (by simp [Value.oneCell']) rfl) (by first | omega | (simp only [List.length_append, List.length_cons, List.length_nil]; omega)) ?_)
   intro v112_ w113_ S115_ H114_
   have S116_ := Same.trans S111_ S115_
   refine ⟨⟨Holds.rd H114_ 4 rfl, (Holds.ro_at H114_ 3 rfl)⟩, ?_⟩
   have hq117_ := And.intro (Holds.rd H114_ 4 rfl) ((Holds.ro_at H114_ 3 rfl))
   refine A_tk 9 (v := (Value.pointer (some ⟨(sb v67_), so v67_ + ((List.length (N0 ++ T)) * 4 + 0), none⟩))) rfl (by kernel_rfl) (fun w hS => by kernel_rfl) hq117_ ?_
   refine A_tk 10 (v := (Value.pointer (some ⟨(sb v67_), so v67_ + ((List.length (N0 ++ T)) * 4 + 3), none⟩))) rfl (by kernel_rfl) (fun w hS => by kernel_rfl) hq117_ ?_
   refine A_ready (i := 11) (rs := []) (by kernel_rfl) ?_
   refine AllR.cons ?_ AllR.nil
   refine A_op0 (ls' := #[true, true, true, true, true, true, true, true, true, true, true, true]) rfl (by kernel_rfl) (T_storeSl (v := v67_) (u := v112_) rfl rfl z41 (Holds.sl_one H114_ 2 rfl) H114_ 5 rfl (by first | omega | (rw [fm_len GN.len]; simp only [List.length_append, List.length_cons, List.length_nil]; omega)) rfl rfl ?_)
   intro w118_ S120_ H119_
   replace H119_ : Holds w118_ (cl b107_ 31 [(Value.int .i64 x38_.rev_Main), (Value.int .i64 x38_.rev_Sub)] :: cl b62_ 68 [(Value.int .i64 0), (Value.int .i64 x38_.created_Main), (Value.int .i64 x38_.created_Sub), (Value.slice none 0 0)] :: sl 31 2 v112_ ((List.length ([] : List RV)) + 1) ((([] : List RV).flatMap RV.cells) ++ [(Value.int .i64 x38_.rev_Main), (Value.int .i64 x38_.rev_Sub)]) :: ro R54_ :: cl b41_ 66 [(Value.int .i64 x38_.rev_Main), (Value.int .i64 x38_.rev_Sub), (Value.int .i64 x38_.created_Main), (Value.int .i64 x38_.created_Sub), (Value.int .i64 x38_.ver), (Value.bool x38_.gone)] :: sl 68 4 v67_ (List.length (N0 ++ T) + 1) (List.set (((N0 ++ T) ++ [(⟨x38_.ver, x38_.created_Main, x38_.created_Sub, (Value.slice none 0 0), ([] : List RV)⟩ : GN)]).flatMap GN.cells) ((List.length (N0 ++ T)) * 4 + 3) v112_) :: cl b15_ 34 [(Value.int .i64 ((vLast L).rev_Main)), (Value.int .i64 ((vLast L).rev_Sub)), v67_] :: cl b2_ 34 [(Value.int .i64 0), (Value.int .i64 0), (Value.slice none 0 0)] :: F) := H119_
   have S121_ := Same.trans S116_ S120_
   have H122_ := Holds.resl H119_ 5 rfl (gset rfl : List.set (((N0 ++ T) ++ [(⟨x38_.ver, x38_.created_Main, x38_.created_Sub, (Value.slice none 0 0), ([] : List RV)⟩ : GN)]).flatMap GN.cells) ((List.length (N0 ++ T)) * 4 + 3) v112_ = ((N0 ++ T) ++ [(⟨x38_.ver, x38_.created_Main, x38_.created_Sub, v112_, (([] : List RV) ++ [x38_.rv])⟩ : GN)]).flatMap GN.cells) (rfl : (List.length (N0 ++ T) + 1) = (List.length (N0 ++ T) + 1))
   refine ⟨⟨Holds.rd H122_ 4 rfl, (Holds.ro_at H122_ 3 rfl)⟩, ?_⟩
   refine A_done (by kernel_rfl) ?_
   refine (X_then (hK85_ _ _ ?_))
   clear hK85_
   refine C_reg ?_
   refine S_list (T_val (v := (Value.pointer (some ⟨b41_, 5, none⟩))) (by kernel_rfl) ?_)
   refine S_list (T_val (v := (Value.bool x38_.gone)) (x_load1 rfl Try.underlying4 rfl ((Holds.rd H122_ 4 rfl) 5 (Value.bool x38_.gone) rfl)) ?_)
   refine S_list (T_val (v := (Value.bool (!x38_.gone))) (x_not rfl) ?_)
   refine S_list (T_val (v := (Value.bool (!x38_.gone))) (x_assign rfl) ?_)
   refine wpList_nil ?_
   refine (X_blkN (X_then (hK36_ _ _ ?_)))
   clear hK36_
   refine C_reg ?_
   refine S_list (T_val (v := (Value.int .i64 ((k : Int) + 1))) (x_bin rfl rfl (ib_add (IntWalk.i64_in _ (by omega)))) ?_)
   refine S_list (T_val (v := (Value.int .i64 ((k : Int) + 1))) (x_move rfl) ?_)
   refine wpList_nil ?_
   refine (X_then ?_)
   have H123_ := Holds.resl H122_ 2 rfl ((by first | rfl | (simp [RV.cells, VR.rv, GN.cells]; done) | (simp; omega)) : (([] : List RV).flatMap RV.cells) ++ [(Value.int .i64 x38_.rev_Main), (Value.int .i64 x38_.rev_Sub)] = (([] : List RV) ++ [x38_.rv]).flatMap RV.cells) ((by first | rfl | (simp [RV.cells, VR.rv, GN.cells]; done) | (simp; omega)) : (List.length ([] : List RV)) + 1 = (List.length (([] : List RV) ++ [x38_.rv])))
   have H124_ := Holds.resl H123_ 5 rfl ((by first | rfl | (simp [RV.cells, VR.rv, GN.cells]; done) | (simp; omega)) : ((N0 ++ T) ++ [(⟨x38_.ver, x38_.created_Main, x38_.created_Sub, v112_, (([] : List RV) ++ [x38_.rv])⟩ : GN)]).flatMap GN.cells = ((N0 ++ T) ++ [(⟨x38_.ver, x38_.created_Main, x38_.created_Sub, v112_, (([] : List RV) ++ [x38_.rv])⟩ : GN)]).flatMap GN.cells) ((by first | rfl | (simp [RV.cells, VR.rv, GN.cells]; done) | (simp; omega)) : (List.length (N0 ++ T) + 1) = (List.length ((N0 ++ T) ++ [(⟨x38_.ver, x38_.created_Main, x38_.created_Sub, v112_, (([] : List RV) ++ [x38_.rv])⟩ : GN)])))
   have H125_ : Holds w118_ (sl 31 2 v112_ (List.length (([] : List RV) ++ [x38_.rv])) ((([] : List RV) ++ [x38_.rv]).flatMap RV.cells) :: sl 68 4 v67_ (List.length ((N0 ++ T) ++ [(⟨x38_.ver, x38_.created_Main, x38_.created_Sub, v112_, (([] : List RV) ++ [x38_.rv])⟩ : GN)])) (((N0 ++ T) ++ [(⟨x38_.ver, x38_.created_Main, x38_.created_Sub, v112_, (([] : List RV) ++ [x38_.rv])⟩ : GN)]).flatMap GN.cells) :: cl b15_ 34 [(Value.int .i64 ((vLast L).rev_Main)), (Value.int .i64 ((vLast L).rev_Sub)), v67_] :: ro R54_ :: cl b2_ 34 [(Value.int .i64 0), (Value.int .i64 0), (Value.slice none 0 0)] :: F) := (Holds.pkF H124_ [2, 4, 4, 2, 3] 3 :)
   exact ⟨⟨R54_, k + 1, (N0 ++ T), [(⟨x38_.ver, x38_.created_Main, x38_.created_Sub, v112_, (([] : List RV) ++ [x38_.rv])⟩ : GN)], v67_, v112_, (([] : List RV) ++ [x38_.rv]), !x38_.gone⟩, ⟨_, congrArg (fun e => mkA 69 e []) (ch (ch (ch (ch (ch (ch (ch rfl rfl) rfl) rfl) rfl) rfl) rfl) (congrArg (Value.int .i64) ((by first | rfl | omega | (simp; done) | (simp; omega)) : (k : Int) + 1 = ((k + 1 : Nat) : Int)))), H125_, S121_, (hz_R_R54_), (by first | assumption | omega | exact rfl), (by rw [rv_take_snoc hx39_, dGo_snoc]; exact dGo_new hm_), (GOk_app hN hs55_ hT hr60_), (Or.inr ⟨_, _, _, rfl⟩), (fun _ h => by cases h), (by simp_all; omega)⟩, by first | omega | (dsimp only; omega) | (simp; omega)⟩
  ·skip
   refine C_skip (X_then (hK50_ _ _ ?_))
   clear hK50_
   refine C_seq (fun K126_ hK126_ => ?_)
   refine C_reg ?_
   have hbg_ : bg = true := by simpa using c52_f
   obtain ⟨ta, tb, tc, rfl⟩ := Tlk_some hT (hb (by simp_all))
   have H127_ := Holds.resl H47_ 2 rfl (rfl : (N0 ++ [(⟨ta, tb, tc, lv, ll⟩ : GN)]).flatMap GN.cells = (N0 ++ [(⟨ta, tb, tc, lv, ll⟩ : GN)]).flatMap GN.cells) (by simp : (List.length (N0 ++ [(⟨ta, tb, tc, lv, ll⟩ : GN)])) = (List.length N0 + 1))
   have hc_ := hc
   simp only [List.length_append, List.length_cons, List.length_nil] at hc_
   have hm_ := hm
   rw [hbg_] at hm_
   refine S_list (T_val (v := (Value.pointer (some ⟨b15_, 2, none⟩))) (by kernel_rfl) ?_)
   refine S_list (T_val (v := gv) (x_load1 rfl Try.underlying32 rfl ((Holds.rd H127_ 3 rfl) 2 gv rfl)) ?_)
   refine S_list (T_val (v := (Value.pointer (some ⟨b15_, 2, none⟩))) (by kernel_rfl) ?_)
   refine S_list (T_val (v := gv) (x_load1 rfl Try.underlying32 rfl ((Holds.rd H127_ 3 rfl) 2 gv rfl)) ?_)
   refine S_list (T_val (v := (Value.int .i64 ((List.length N0 + 1) : Int))) (x_lenSl rfl H127_ 2 rfl Try.underlying32) ?_)
   refine S_list (T_val (v := (Value.int .i64 (((List.length N0 + 1) : Int) - 1))) (x_bin rfl rfl (ib_sub (IntWalk.i64_in _ (by omega)))) ?_)
   have hr128_ := Holds.sl_RSw H127_ 2 rfl
   refine S_list (T_val (v := (Value.pointer (some ⟨(sb gv), so gv + ((List.length N0) * 4 + 0), none⟩))) (x_idxSlR (v := gv) rfl hr128_ rfl Try.underlying32 z68 (by omega) (by omega) (by omega : _ = List.length N0) rfl) ?_)
   refine S_list (T_val (v := (Value.pointer (some ⟨(sb gv), so gv + ((List.length N0) * 4 + 0), none⟩))) (x_assign rfl) ?_)
   refine wpList_nil ?_
   refine (X_then (hK126_ _ _ ?_))
   clear hK126_
   refine C_seq (fun K129_ hK129_ => ?_)
   refine C_reg ?_
   refine S_list (T_val (v := (Value.pointer (some ⟨(sb gv), so gv + ((List.length N0) * 4 + 0), none⟩))) (x_move rfl) ?_)
   refine S_list (T_val (v := (Value.pointer (some ⟨b41_, 4, none⟩))) (by kernel_rfl) ?_)
   refine S_list (T_val (v := (Value.int .i64 x38_.ver)) (x_load1 rfl Try.underlying2 rfl ((Holds.rd H127_ 0 rfl) 4 (Value.int .i64 x38_.ver) rfl)) ?_)
   refine S_list (T_val (v := (Value.pointer (some ⟨(sb gv), so gv + ((List.length N0) * 4 + 0), none⟩))) (by kernel_rfl) ?_)
   refine S_list (T_val (v := (Value.pointer (some ⟨(sb gv), so gv + ((List.length N0) * 4 + 0), none⟩))) (by kernel_rfl) ?_)
   refine S_list0 (T_storeSl (v := gv) (u := (Value.int .i64 x38_.ver)) rfl rfl z2 rfl H127_ 2 rfl (by first | omega | (rw [fm_len GN.len]; simp only [List.length_append, List.length_cons, List.length_nil]; omega)) rfl rfl ?_)
   intro w130_ S132_ H131_
   have S133_ := Same.trans S49_ S132_
   have H134_ := Holds.resl H131_ 2 rfl (gset rfl : List.set ((N0 ++ [(⟨ta, tb, tc, lv, ll⟩ : GN)]).flatMap GN.cells) ((List.length N0) * 4 + 0) (Value.int .i64 x38_.ver) = (N0 ++ [(⟨x38_.ver, tb, tc, lv, ll⟩ : GN)]).flatMap GN.cells) (rfl : (List.length N0 + 1) = (List.length N0 + 1))
   refine wpList_nil ?_
   refine (X_then (hK129_ _ _ ?_))
   clear hK129_
   refine C_seq (fun K135_ hK135_ => ?_)
   refine A_start (S := fun w => Rd b41_ [(Value.int .i64 x38_.rev_Main), (Value.int .i64 x38_.rev_Sub), (Value.int .i64 x38_.created_Main), (Value.int .i64 x38_.created_Sub), (Value.int .i64 x38_.ver), (Value.bool x38_.gone)] w ∧ Sub R1 (hp w)) (N := 12) foll rfl rfl ?_
   have H136_ := Holds.drew_ H134_
   have hq137_ := And.intro (Holds.rd H136_ 0 rfl) ((Holds.ro_at H136_ 4 rfl))
   refine A_tk 0 (v := (Value.pointer (some ⟨(sb gv), so gv + ((List.length N0) * 4 + 0), none⟩))) rfl (by kernel_rfl) (fun w hS => x_move rfl) hq137_ ?_
   refine A_tk 1 (v := (Value.pointer (some ⟨(sb gv), so gv + ((List.length N0) * 4 + 0), none⟩))) rfl (by kernel_rfl) (fun w hS => x_move rfl) hq137_ ?_
   refine A_tk 2 (v := (Value.pointer (some ⟨(sb gv), so gv + ((List.length N0) * 4 + 0), none⟩))) rfl (by kernel_rfl) (fun w hS => by kernel_rfl) hq137_ ?_
   refine A_tk 3 (v := (Value.pointer (some ⟨(sb gv), so gv + ((List.length N0) * 4 + 3), none⟩))) rfl (by kernel_rfl) (fun w hS => by kernel_rfl) hq137_ ?_
   refine A_tk 5 (v := (Value.pointer (some ⟨b41_, 0, none⟩))) rfl (by kernel_rfl) (fun w hS => by kernel_rfl) hq137_ ?_
   refine A_tk 6 (v := (Value.agg #[(Value.int .i64 x38_.rev_Main), (Value.int .i64 x38_.rev_Sub)])) rfl (by kernel_rfl) (fun w hS => x_loadN (vs := [(Value.int .i64 x38_.rev_Main), (Value.int .i64 x38_.rev_Sub)]) rfl Try.underlying31 rfl z31 rfl (Rd.cells hS.1 0 rfl)) hq137_ ?_
   refine A_ready (i := 4) (rs := [7]) (by kernel_rfl) ?_
   refine AllR.cons ?_ ?_
   ·skip
    refine A_op (ls' := #[true, true, true, true, true, true, true, false, false, false, false, false]) rfl (by kernel_rfl) (T_val (v := lv) (x_load1 rfl Try.underlying41 rfl ((Holds.slrd H136_ 2 rfl) _ _ (fm_cell GN.len (gat _ _) (i := 3) rfl))) ?_)
    refine ⟨⟨Holds.rd H136_ 0 rfl, (Holds.ro_at H136_ 4 rfl)⟩, ?_⟩
    refine A_ready (i := 7) (rs := []) (by kernel_rfl) ?_
    refine AllR.cons ?_ AllR.nil
    refine A_op (ls' := #[true, true, true, true, true, true, true, true, false, false, false, false]) rfl (by kernel_rfl) (T_new (obj := .cells #[(Value.int .i64 x38_.rev_Main), (Value.int .i64 x38_.rev_Sub)] 31) (f := fun b__ => .slice (some ⟨b__, 0, none⟩) 1 1) (A := fun b__ => cl b__ 31 [(Value.int .i64 x38_.rev_Main), (Value.int .i64 x38_.rev_Sub)]) (by kernel_rfl) (fun l h => h.alloc _ _) H136_ ?_)
    intro b138_ w139_ S141_ H140_
    have S142_ := Same.trans (Same.trans S133_ (Same.drew _)) S141_
    refine ⟨⟨Holds.rd H140_ 1 rfl, (Holds.ro_at H140_ 5 rfl)⟩, ?_⟩
    refine A_ready (i := 8) (rs := []) (by kernel_rfl) ?_
    refine AllR.cons ?_ AllR.nil
    refine A_op (ls' := #[true, true, true, true, true, true, true, true, true, false, false, false]) rfl (by kernel_rfl) (T_append rfl rfl Try.underlying41 z31 rfl (by decide) H140_ 2 rfl (Holds.cl_src H140_ 0 rfl Try.underlying41 (by simp [Value.oneCell']) rfl) (by first | omega | (simp only [List.length_append, List.length_cons, List.length_nil]; omega)) ?_)
    intro v143_ w144_ S146_ H145_
    have S147_ := Same.trans S142_ S146_
    refine ⟨⟨Holds.rd H145_ 1 rfl, (Holds.ro_at H145_ 5 rfl)⟩, ?_⟩
    have hq148_ := And.intro (Holds.rd H145_ 1 rfl) ((Holds.ro_at H145_ 5 rfl))
    refine A_tk 9 (v := (Value.pointer (some ⟨(sb gv), so gv + ((List.length N0) * 4 + 0), none⟩))) rfl (by kernel_rfl) (fun w hS => by kernel_rfl) hq148_ ?_
    refine A_tk 10 (v := (Value.pointer (some ⟨(sb gv), so gv + ((List.length N0) * 4 + 3), none⟩))) rfl (by kernel_rfl) (fun w hS => by kernel_rfl) hq148_ ?_
    refine A_ready (i := 11) (rs := []) (by kernel_rfl) ?_
    refine AllR.cons ?_ AllR.nil
    refine A_op0 (ls' := #[true, true, true, true, true, true, true, true, true, true, true, true]) rfl (by kernel_rfl) (T_storeSl (v := gv) (u := v143_) rfl rfl z41 (Holds.sl_one H145_ 2 rfl) H145_ 3 rfl (by first | omega | (rw [fm_len GN.len]; simp only [List.length_append, List.length_cons, List.length_nil]; omega)) rfl rfl ?_)
    intro w149_ S151_ H150_
    replace H150_ : Holds w149_ (cl b138_ 31 [(Value.int .i64 x38_.rev_Main), (Value.int .i64 x38_.rev_Sub)] :: cl b41_ 66 [(Value.int .i64 x38_.rev_Main), (Value.int .i64 x38_.rev_Sub), (Value.int .i64 x38_.created_Main), (Value.int .i64 x38_.created_Sub), (Value.int .i64 x38_.ver), (Value.bool x38_.gone)] :: sl 31 2 v143_ ((List.length ll) + 1) ((ll.flatMap RV.cells) ++ [(Value.int .i64 x38_.rev_Main), (Value.int .i64 x38_.rev_Sub)]) :: sl 68 4 gv (List.length N0 + 1) (List.set ((N0 ++ [(⟨x38_.ver, tb, tc, lv, ll⟩ : GN)]).flatMap GN.cells) ((List.length N0) * 4 + 3) v143_) :: cl b15_ 34 [(Value.int .i64 ((vLast L).rev_Main)), (Value.int .i64 ((vLast L).rev_Sub)), gv] :: ro R1 :: cl b2_ 34 [(Value.int .i64 0), (Value.int .i64 0), (Value.slice none 0 0)] :: F) := H150_
    have S152_ := Same.trans S147_ S151_
    have H153_ := Holds.resl H150_ 3 rfl (gset rfl : List.set ((N0 ++ [(⟨x38_.ver, tb, tc, lv, ll⟩ : GN)]).flatMap GN.cells) ((List.length N0) * 4 + 3) v143_ = (N0 ++ [(⟨x38_.ver, tb, tc, v143_, (ll ++ [x38_.rv])⟩ : GN)]).flatMap GN.cells) (rfl : (List.length N0 + 1) = (List.length N0 + 1))
    refine ⟨⟨Holds.rd H153_ 1 rfl, (Holds.ro_at H153_ 5 rfl)⟩, ?_⟩
    refine A_done (by kernel_rfl) ?_
    refine (X_then (hK135_ _ _ ?_))
    clear hK135_
    refine C_reg ?_
    refine S_list (T_val (v := (Value.pointer (some ⟨b41_, 5, none⟩))) (by kernel_rfl) ?_)
    refine S_list (T_val (v := (Value.bool x38_.gone)) (x_load1 rfl Try.underlying4 rfl ((Holds.rd H153_ 1 rfl) 5 (Value.bool x38_.gone) rfl)) ?_)
    refine S_list (T_val (v := (Value.bool (!x38_.gone))) (x_not rfl) ?_)
    refine S_list (T_val (v := (Value.bool (!x38_.gone))) (x_assign rfl) ?_)
    refine wpList_nil ?_
    refine (X_blkN (X_then (hK36_ _ _ ?_)))
    clear hK36_
    refine C_reg ?_
    refine S_list (T_val (v := (Value.int .i64 ((k : Int) + 1))) (x_bin rfl rfl (ib_add (IntWalk.i64_in _ (by omega)))) ?_)
    refine S_list (T_val (v := (Value.int .i64 ((k : Int) + 1))) (x_move rfl) ?_)
    refine wpList_nil ?_
    refine (X_then ?_)
    have H154_ := Holds.resl H153_ 2 rfl ((by first | rfl | (simp [RV.cells, VR.rv, GN.cells]; done) | (simp; omega)) : (ll.flatMap RV.cells) ++ [(Value.int .i64 x38_.rev_Main), (Value.int .i64 x38_.rev_Sub)] = (ll ++ [x38_.rv]).flatMap RV.cells) ((by first | rfl | (simp [RV.cells, VR.rv, GN.cells]; done) | (simp; omega)) : (List.length ll) + 1 = (List.length (ll ++ [x38_.rv])))
    have H155_ := Holds.resl H154_ 3 rfl ((by first | rfl | (simp [RV.cells, VR.rv, GN.cells]; done) | (simp; omega)) : (N0 ++ [(⟨x38_.ver, tb, tc, v143_, (ll ++ [x38_.rv])⟩ : GN)]).flatMap GN.cells = (N0 ++ [(⟨x38_.ver, tb, tc, v143_, (ll ++ [x38_.rv])⟩ : GN)]).flatMap GN.cells) ((by first | rfl | (simp [RV.cells, VR.rv, GN.cells]; done) | (simp; omega)) : (List.length N0 + 1) = (List.length (N0 ++ [(⟨x38_.ver, tb, tc, v143_, (ll ++ [x38_.rv])⟩ : GN)])))
    have H156_ : Holds w149_ (sl 31 2 v143_ (List.length (ll ++ [x38_.rv])) ((ll ++ [x38_.rv]).flatMap RV.cells) :: sl 68 4 gv (List.length (N0 ++ [(⟨x38_.ver, tb, tc, v143_, (ll ++ [x38_.rv])⟩ : GN)])) ((N0 ++ [(⟨x38_.ver, tb, tc, v143_, (ll ++ [x38_.rv])⟩ : GN)]).flatMap GN.cells) :: cl b15_ 34 [(Value.int .i64 ((vLast L).rev_Main)), (Value.int .i64 ((vLast L).rev_Sub)), gv] :: ro R1 :: cl b2_ 34 [(Value.int .i64 0), (Value.int .i64 0), (Value.slice none 0 0)] :: F) := (Holds.pkF H155_ [2, 2, 2, 2, 2] 2 :)
    exact ⟨⟨R1, k + 1, N0, [(⟨x38_.ver, tb, tc, v143_, (ll ++ [x38_.rv])⟩ : GN)], gv, v143_, (ll ++ [x38_.rv]), !x38_.gone⟩, ⟨_, congrArg (fun e => mkA 69 e []) (ch (ch (ch (ch (ch (ch (ch rfl rfl) rfl) rfl) rfl) rfl) rfl) (congrArg (Value.int .i64) ((by first | rfl | omega | (simp; done) | (simp; omega)) : (k : Int) + 1 = ((k + 1 : Nat) : Int)))), H156_, S152_, (hsR1), (by first | assumption | omega | exact rfl), (by rw [rv_take_snoc hx39_, dGo_snoc]; exact dGo_old hm_), (hN), (Or.inr ⟨_, _, _, rfl⟩), (fun _ h => by cases h), (by simp_all; omega)⟩, by first | omega | (dsimp only; omega) | (simp; omega)⟩
   refine AllR.cons ?_ AllR.nil
   refine A_op (ls' := #[true, true, true, true, false, true, true, true, false, false, false, false]) rfl (by kernel_rfl) (T_new (obj := .cells #[(Value.int .i64 x38_.rev_Main), (Value.int .i64 x38_.rev_Sub)] 31) (f := fun b__ => .slice (some ⟨b__, 0, none⟩) 1 1) (A := fun b__ => cl b__ 31 [(Value.int .i64 x38_.rev_Main), (Value.int .i64 x38_.rev_Sub)]) (by kernel_rfl) (fun l h => h.alloc _ _) H136_ ?_)
   intro b157_ w158_ S160_ H159_
   have S161_ := Same.trans (Same.trans S133_ (Same.drew _)) S160_
   refine ⟨⟨Holds.rd H159_ 1 rfl, (Holds.ro_at H159_ 5 rfl)⟩, ?_⟩
   refine A_ready (i := 4) (rs := []) (by kernel_rfl) ?_
   refine AllR.cons ?_ AllR.nil
   refine A_op (ls' := #[true, true, true, true, true, true, true, true, false, false, false, false]) rfl (by kernel_rfl) (T_val (v := lv) (x_load1 rfl Try.underlying41 rfl ((Holds.slrd H159_ 3 rfl) _ _ (fm_cell GN.len (gat _ _) (i := 3) rfl))) ?_)
   refine ⟨⟨Holds.rd H159_ 1 rfl, (Holds.ro_at H159_ 5 rfl)⟩, ?_⟩
   refine A_ready (i := 8) (rs := []) (by kernel_rfl) ?_
   refine AllR.cons ?_ AllR.nil
   refine A_op (ls' := #[true, true, true, true, true, true, true, true, true, false, false, false]) rfl (by kernel_rfl) (T_append rfl rfl Try.underlying41 z31 rfl (by decide) H159_ 2 rfl (Holds.cl_src H159_ 0 rfl Try.underlying41 (by simp [Value.oneCell']) rfl) (by first | omega | (simp only [List.length_append, List.length_cons, List.length_nil]; omega)) ?_)
   intro v162_ w163_ S165_ H164_
   have S166_ := Same.trans S161_ S165_
   refine ⟨⟨Holds.rd H164_ 1 rfl, (Holds.ro_at H164_ 5 rfl)⟩, ?_⟩
   have hq167_ := And.intro (Holds.rd H164_ 1 rfl) ((Holds.ro_at H164_ 5 rfl))
   refine A_tk 9 (v := (Value.pointer (some ⟨(sb gv), so gv + ((List.length N0) * 4 + 0), none⟩))) rfl (by kernel_rfl) (fun w hS => by kernel_rfl) hq167_ ?_
   refine A_tk 10 (v := (Value.pointer (some ⟨(sb gv), so gv + ((List.length N0) * 4 + 3), none⟩))) rfl (by kernel_rfl) (fun w hS => by kernel_rfl) hq167_ ?_
   refine A_ready (i := 11) (rs := []) (by kernel_rfl) ?_
   refine AllR.cons ?_ AllR.nil
   refine A_op0 (ls' := #[true, true, true, true, true, true, true, true, true, true, true, true]) rfl (by kernel_rfl) (T_storeSl (v := gv) (u := v162_) rfl rfl z41 (Holds.sl_one H164_ 2 rfl) H164_ 3 rfl (by first | omega | (rw [fm_len GN.len]; simp only [List.length_append, List.length_cons, List.length_nil]; omega)) rfl rfl ?_)
   intro w168_ S170_ H169_
   replace H169_ : Holds w168_ (cl b157_ 31 [(Value.int .i64 x38_.rev_Main), (Value.int .i64 x38_.rev_Sub)] :: cl b41_ 66 [(Value.int .i64 x38_.rev_Main), (Value.int .i64 x38_.rev_Sub), (Value.int .i64 x38_.created_Main), (Value.int .i64 x38_.created_Sub), (Value.int .i64 x38_.ver), (Value.bool x38_.gone)] :: sl 31 2 v162_ ((List.length ll) + 1) ((ll.flatMap RV.cells) ++ [(Value.int .i64 x38_.rev_Main), (Value.int .i64 x38_.rev_Sub)]) :: sl 68 4 gv (List.length N0 + 1) (List.set ((N0 ++ [(⟨x38_.ver, tb, tc, lv, ll⟩ : GN)]).flatMap GN.cells) ((List.length N0) * 4 + 3) v162_) :: cl b15_ 34 [(Value.int .i64 ((vLast L).rev_Main)), (Value.int .i64 ((vLast L).rev_Sub)), gv] :: ro R1 :: cl b2_ 34 [(Value.int .i64 0), (Value.int .i64 0), (Value.slice none 0 0)] :: F) := H169_
   have S171_ := Same.trans S166_ S170_
   have H172_ := Holds.resl H169_ 3 rfl (gset rfl : List.set ((N0 ++ [(⟨x38_.ver, tb, tc, lv, ll⟩ : GN)]).flatMap GN.cells) ((List.length N0) * 4 + 3) v162_ = (N0 ++ [(⟨x38_.ver, tb, tc, v162_, (ll ++ [x38_.rv])⟩ : GN)]).flatMap GN.cells) (rfl : (List.length N0 + 1) = (List.length N0 + 1))
   refine ⟨⟨Holds.rd H172_ 1 rfl, (Holds.ro_at H172_ 5 rfl)⟩, ?_⟩
   refine A_done (by kernel_rfl) ?_
   refine (X_then (hK135_ _ _ ?_))
   clear hK135_
   refine C_reg ?_
   refine S_list (T_val (v := (Value.pointer (some ⟨b41_, 5, none⟩))) (by kernel_rfl) ?_)
   refine S_list (T_val (v := (Value.bool x38_.gone)) (x_load1 rfl Try.underlying4 rfl ((Holds.rd H172_ 1 rfl) 5 (Value.bool x38_.gone) rfl)) ?_)
   refine S_list (T_val (v := (Value.bool (!x38_.gone))) (x_not rfl) ?_)
   refine S_list (T_val (v := (Value.bool (!x38_.gone))) (x_assign rfl) ?_)
   refine wpList_nil ?_
   refine (X_blkN (X_then (hK36_ _ _ ?_)))
   clear hK36_
   refine C_reg ?_
   refine S_list (T_val (v := (Value.int .i64 ((k : Int) + 1))) (x_bin rfl rfl (ib_add (IntWalk.i64_in _ (by omega)))) ?_)
   refine S_list (T_val (v := (Value.int .i64 ((k : Int) + 1))) (x_move rfl) ?_)
   refine wpList_nil ?_
   refine (X_then ?_)
   have H173_ := Holds.resl H172_ 2 rfl ((by first | rfl | (simp [RV.cells, VR.rv, GN.cells]; done) | (simp; omega)) : (ll.flatMap RV.cells) ++ [(Value.int .i64 x38_.rev_Main), (Value.int .i64 x38_.rev_Sub)] = (ll ++ [x38_.rv]).flatMap RV.cells) ((by first | rfl | (simp [RV.cells, VR.rv, GN.cells]; done) | (simp; omega)) : (List.length ll) + 1 = (List.length (ll ++ [x38_.rv])))
   have H174_ := Holds.resl H173_ 3 rfl ((by first | rfl | (simp [RV.cells, VR.rv, GN.cells]; done) | (simp; omega)) : (N0 ++ [(⟨x38_.ver, tb, tc, v162_, (ll ++ [x38_.rv])⟩ : GN)]).flatMap GN.cells = (N0 ++ [(⟨x38_.ver, tb, tc, v162_, (ll ++ [x38_.rv])⟩ : GN)]).flatMap GN.cells) ((by first | rfl | (simp [RV.cells, VR.rv, GN.cells]; done) | (simp; omega)) : (List.length N0 + 1) = (List.length (N0 ++ [(⟨x38_.ver, tb, tc, v162_, (ll ++ [x38_.rv])⟩ : GN)])))
   have H175_ : Holds w168_ (sl 31 2 v162_ (List.length (ll ++ [x38_.rv])) ((ll ++ [x38_.rv]).flatMap RV.cells) :: sl 68 4 gv (List.length (N0 ++ [(⟨x38_.ver, tb, tc, v162_, (ll ++ [x38_.rv])⟩ : GN)])) ((N0 ++ [(⟨x38_.ver, tb, tc, v162_, (ll ++ [x38_.rv])⟩ : GN)]).flatMap GN.cells) :: cl b15_ 34 [(Value.int .i64 ((vLast L).rev_Main)), (Value.int .i64 ((vLast L).rev_Sub)), gv] :: ro R1 :: cl b2_ 34 [(Value.int .i64 0), (Value.int .i64 0), (Value.slice none 0 0)] :: F) := (Holds.pkF H174_ [2, 2, 2, 2, 2] 2 :)
   exact ⟨⟨R1, k + 1, N0, [(⟨x38_.ver, tb, tc, v162_, (ll ++ [x38_.rv])⟩ : GN)], gv, v162_, (ll ++ [x38_.rv]), !x38_.gone⟩, ⟨_, congrArg (fun e => mkA 69 e []) (ch (ch (ch (ch (ch (ch (ch rfl rfl) rfl) rfl) rfl) rfl) rfl) (congrArg (Value.int .i64) ((by first | rfl | omega | (simp; done) | (simp; omega)) : (k : Int) + 1 = ((k + 1 : Nat) : Int)))), H175_, S171_, (hsR1), (by first | assumption | omega | exact rfl), (by rw [rv_take_snoc hx39_, dGo_snoc]; exact dGo_old hm_), (hN), (Or.inr ⟨_, _, _, rfl⟩), (fun _ h => by cases h), (by simp_all; omega)⟩, by first | omega | (dsimp only; omega) | (simp; omega)⟩
 ·have c35_fp : ¬ ((k : Int) < ((List.length L) : Int)) := of_decide_eq_false c35_f
  refine C_exit (X_thenX (X_thenX (X_blkHit ?_)))
  refine (X_then (hK25_ _ _ ?_))
  clear hK25_
  refine C_seq (fun K176_ hK176_ => ?_)
  refine C_seq (fun K177_ hK177_ => ?_)
  refine C_reg ?_
  refine S_list (T_val (v := v) (x_move rfl) ?_)
  refine S_list (T_val (v := (Value.int .i64 ((List.length L) : Int))) (x_lenRS rfl (RS.mono hL hsR1) Try.underlying23) ?_)
  refine S_list (T_val (v := (Value.bool (decide (0 < ((List.length L) : Int))))) (x_bin rfl rfl rfl) ?_)
  refine S_list (T_val (v := (Value.bool (decide (0 < ((List.length L) : Int))))) (x_move rfl) ?_)
  rcases Bool.eq_false_or_eq_true (decide (0 < ((List.length L) : Int))) with c178_t | c178_f
  ·have c178_tp : 0 < ((List.length L) : Int) := of_decide_eq_true c178_t
   refine S_yes (j := 3) (dj := 57) (b := true) rfl rfl (congrArg Value.bool c178_t) (T_val (v := v) (x_move rfl) ?_)
   have H180_ := ((Holds.bring H31_ 3 rfl) :)
   refine S_yes (j := 3) (dj := 57) (b := true) rfl rfl (congrArg Value.bool c178_t) (T_call (al := [v]) (pre := []) rfl rfl cb16 (kLives R1 v L (RS.set_ (RS.mono hL hsR1) rfl (by first | rfl | (simp [RV.cells, VR.rv, GN.cells]; done) | (simp; omega))) (by first | assumption | omega)) H180_ ?_)
   rintro v179_ p184_ w181_ ⟨rfl, rfl⟩ S183_ H182_
   have S185_ := Same.trans S32_ S183_
   refine S_yes (j := 3) (dj := 57) (b := true) rfl rfl (congrArg Value.bool c178_t) (T_val (v := (Value.bool (!(!(vLast L).gone)))) (x_not rfl) ?_)
   refine S_list (T_pickT (v := (Value.bool (!(!(vLast L).gone)))) (congrArg Value.bool c178_t) rfl ?_)
   refine wpList_nil ?_
   refine (X_then (hK177_ _ _ ?_))
   clear hK177_
   refine C_cond (b := !(!(vLast L).gone)) rfl (fun c186_t => ?_) (fun c186_f => ?_)
   ·skip
    refine C_reg ?_
    refine S_list (T_val (v := (Value.pointer (some ⟨b15_, 2, none⟩))) (by kernel_rfl) ?_)
    refine S_list (T_val (v := gv) (x_load1 rfl Try.underlying32 rfl ((Holds.rd H182_ 3 rfl) 2 gv rfl)) ?_)
    refine S_list (T_val (v := (Value.agg #[(Value.int .i64 0), (Value.int .i64 0), (Value.int .i64 0), (Value.slice none 0 0)])) (by kernel_rfl) ?_)
    refine S_list (T_new (obj := .cells #[(Value.int .i64 0), (Value.int .i64 0), (Value.int .i64 0), (Value.slice none 0 0)] 68) (f := fun b__ => .slice (some ⟨b__, 0, none⟩) 1 1) (A := fun b__ => cl b__ 68 [(Value.int .i64 0), (Value.int .i64 0), (Value.int .i64 0), (Value.slice none 0 0)]) (by kernel_rfl) (fun l h => h.alloc _ _) H182_ ?_)
    intro b187_ w188_ S190_ H189_
    replace H189_ : Holds w188_ (cl b187_ 68 [(Value.int .i64 0), (Value.int .i64 0), (Value.int .i64 0), (Value.slice none 0 0)] :: ro R1 :: sl 31 2 lv (List.length ll) (ll.flatMap RV.cells) :: sl 68 4 gv (List.length (N0 ++ T)) ((N0 ++ T).flatMap GN.cells) :: cl b15_ 34 [(Value.int .i64 ((vLast L).rev_Main)), (Value.int .i64 ((vLast L).rev_Sub)), gv] :: cl b2_ 34 [(Value.int .i64 0), (Value.int .i64 0), (Value.slice none 0 0)] :: F) := H189_
    have S191_ := Same.trans S185_ S190_
    refine S_list (T_append rfl rfl Try.underlying32 z68 rfl (by decide) H189_ 3 rfl (Holds.cl_src H189_ 0 rfl Try.underlying32 (by simp [Value.oneCell']) rfl) (by first | omega | (simp only [List.length_append, List.length_cons, List.length_nil]; omega)) ?_)
    intro v192_ w193_ S195_ H194_
    have S196_ := Same.trans S191_ S195_
    refine S_list (T_val (v := (Value.pointer (some ⟨b15_, 2, none⟩))) (by kernel_rfl) ?_)
    refine S_list0 (T_store1 (v := v192_) rfl rfl z32 (Holds.sl_one H194_ 3 rfl) H194_ 4 rfl (Nat.le_of_ble_eq_true (by rfl)) ?_)
    intro w197_ S199_ H198_
    have S200_ := Same.trans S196_ S199_
    refine wpList_nil ?_
    refine (X_then (hK176_ _ _ ?_))
    clear hK176_
    refine C_seq (fun K201_ hK201_ => ?_)
    refine C_reg ?_
    refine S_list (T_val (v := (Value.agg #[(Value.int .i64 ((vLast L).rev_Main)), (Value.int .i64 ((vLast L).rev_Sub)), v192_])) (x_loadN (vs := [(Value.int .i64 ((vLast L).rev_Main)), (Value.int .i64 ((vLast L).rev_Sub)), v192_]) rfl Try.underlying34 rfl z34 rfl (Rd.cells (Holds.rd H198_ 4 rfl) 0 rfl)) ?_)
    refine S_list0 (T_storeN (vs := [(Value.int .i64 ((vLast L).rev_Main)), (Value.int .i64 ((vLast L).rev_Sub)), v192_]) rfl rfl z34 rfl (List.forall_mem_cons.2 ⟨rfl, (List.forall_mem_cons.2 ⟨rfl, (List.forall_mem_cons.2 ⟨(Holds.sl_one H198_ 3 rfl), (fun _ h__ => by cases h__)⟩)⟩)⟩) H198_ 5 rfl (Nat.le_of_ble_eq_true (by rfl)) ?_)
    intro w202_ S204_ H203_
    replace H203_ : Holds w202_ (cl b187_ 68 [(Value.int .i64 0), (Value.int .i64 0), (Value.int .i64 0), (Value.slice none 0 0)] :: ro R1 :: sl 31 2 lv (List.length ll) (ll.flatMap RV.cells) :: sl 68 4 v192_ ((List.length (N0 ++ T)) + 1) (((N0 ++ T).flatMap GN.cells) ++ [(Value.int .i64 0), (Value.int .i64 0), (Value.int .i64 0), (Value.slice none 0 0)]) :: cl b15_ 34 [(Value.int .i64 ((vLast L).rev_Main)), (Value.int .i64 ((vLast L).rev_Sub)), v192_] :: cl b2_ 34 [(Value.int .i64 ((vLast L).rev_Main)), (Value.int .i64 ((vLast L).rev_Sub)), v192_] :: F) := H203_
    have S205_ := Same.trans S200_ S204_
    refine wpList_nil ?_
    refine (X_then (hK201_ _ _ ?_))
    clear hK201_
    refine C_ret ?_
    refine R_any (v := (Value.agg #[(Value.int .i64 ((vLast L).rev_Main)), (Value.int .i64 ((vLast L).rev_Sub)), v192_])) (run_results1 rfl ⟨_, rfl, load_resN Try.underlying34 rfl z34 rfl (vs := [(Value.int .i64 ((vLast L).rev_Main)), (Value.int .i64 ((vLast L).rev_Sub)), v192_]) (Holds.cl_cells H203_ 5 rfl 0 rfl)⟩) ?_
    have hk_ : k = L.length := (by omega)
    rw [hk_, List.take_length] at hm
    have H206_ := ((Holds.bring (Holds.bring H203_ 2 rfl) 2 rfl) :)
    obtain ⟨R207_, hs208_, ⟨R209_, ha210_, hs211_⟩, H212_⟩ := Holds.gift H206_
    have hz_R_R207_ := Sub.trans' hsR1 hs208_
    have hr213_ : RS R207_ 2 lv (List.length ll) (ll.flatMap RV.cells) := (sl_RS ha210_ (Sub.rfl' _)).mono hs211_
    have H214_ := Holds.resl H212_ 2 rfl (by simp [GN.cells] : ((N0 ++ T).flatMap GN.cells) ++ [(Value.int .i64 0), (Value.int .i64 0), (Value.int .i64 0), (Value.slice none 0 0)] = ((N0 ++ T) ++ [(⟨0, 0, 0, (Value.slice none 0 0), ([] : List RV)⟩ : GN)]).flatMap GN.cells) (by simp : (List.length (N0 ++ T)) + 1 = (List.length (N0 ++ T) + 1))
    have H215_ := ((Holds.bring (Holds.bring H214_ 2 rfl) 1 rfl) :)
    replace H215_ : Holds w202_ (ro R207_ :: sl 68 4 v192_ (List.length (N0 ++ T) + 1) (((N0 ++ T) ++ [(⟨0, 0, 0, (Value.slice none 0 0), ([] : List RV)⟩ : GN)]).flatMap GN.cells) :: cl b187_ 68 [(Value.int .i64 0), (Value.int .i64 0), (Value.int .i64 0), (Value.slice none 0 0)] :: cl b15_ 34 [(Value.int .i64 ((vLast L).rev_Main)), (Value.int .i64 ((vLast L).rev_Sub)), v192_] :: cl b2_ 34 [(Value.int .i64 ((vLast L).rev_Main)), (Value.int .i64 ((vLast L).rev_Sub)), v192_] :: F) := H215_
    obtain ⟨R216_, hs217_, ⟨R218_, ha219_, hs220_⟩, H221_⟩ := Holds.gift H215_
    have hz_R_R216_ := Sub.trans' hz_R_R207_ hs217_
    have hz_R1_R216_ := Sub.trans' hs208_ hs217_
    have hr222_ : RS R216_ 4 v192_ (List.length (N0 ++ T) + 1) (((N0 ++ T) ++ [(⟨0, 0, 0, (Value.slice none 0 0), ([] : List RV)⟩ : GN)]).flatMap GN.cells) := (sl_RS ha219_ (Sub.rfl' _)).mono hs220_
    have H223_ : Holds w202_ (ro R216_ :: F) := (Holds.pkF H221_ [0] 3 :)
    exact ⟨R216_, _, _, rfl, hz_R_R216_, ⟨v192_, rfl, rfl, (⟨N0 ++ T ++ [(⟨0, 0, 0, .slice none 0 0, []⟩ : GN)], dGens_yes hm ⟨by omega, by simpa using c186_t⟩, RS.set_ hr222_ rfl (by simp; omega), GOk_nil (GOk_app hN hz_R1_R216_ hT (RS.mono hr213_ hs217_))⟩)⟩, S205_, H223_⟩
   ·skip
    refine C_skip (X_then (hK176_ _ _ ?_))
    clear hK176_
    refine C_seq (fun K224_ hK224_ => ?_)
    refine C_reg ?_
    refine S_list (T_val (v := (Value.agg #[(Value.int .i64 ((vLast L).rev_Main)), (Value.int .i64 ((vLast L).rev_Sub)), gv])) (x_loadN (vs := [(Value.int .i64 ((vLast L).rev_Main)), (Value.int .i64 ((vLast L).rev_Sub)), gv]) rfl Try.underlying34 rfl z34 rfl (Rd.cells (Holds.rd H182_ 3 rfl) 0 rfl)) ?_)
    refine S_list0 (T_storeN (vs := [(Value.int .i64 ((vLast L).rev_Main)), (Value.int .i64 ((vLast L).rev_Sub)), gv]) rfl rfl z34 rfl (List.forall_mem_cons.2 ⟨rfl, (List.forall_mem_cons.2 ⟨rfl, (List.forall_mem_cons.2 ⟨(Holds.sl_one H182_ 2 rfl), (fun _ h__ => by cases h__)⟩)⟩)⟩) H182_ 4 rfl (Nat.le_of_ble_eq_true (by rfl)) ?_)
    intro w225_ S227_ H226_
    have S228_ := Same.trans S185_ S227_
    refine wpList_nil ?_
    refine (X_then (hK224_ _ _ ?_))
    clear hK224_
    refine C_ret ?_
    refine R_any (v := (Value.agg #[(Value.int .i64 ((vLast L).rev_Main)), (Value.int .i64 ((vLast L).rev_Sub)), gv])) (run_results1 rfl ⟨_, rfl, load_resN Try.underlying34 rfl z34 rfl (vs := [(Value.int .i64 ((vLast L).rev_Main)), (Value.int .i64 ((vLast L).rev_Sub)), gv]) (Holds.cl_cells H226_ 4 rfl 0 rfl)⟩) ?_
    have hk_ : k = L.length := (by omega)
    rw [hk_, List.take_length] at hm
    obtain ⟨R229_, hs230_, ⟨R231_, ha232_, hs233_⟩, H234_⟩ := Holds.gift H226_
    have hz_R_R229_ := Sub.trans' hsR1 hs230_
    have hr235_ : RS R229_ 2 lv (List.length ll) (ll.flatMap RV.cells) := (sl_RS ha232_ (Sub.rfl' _)).mono hs233_
    obtain ⟨R236_, hs237_, ⟨R238_, ha239_, hs240_⟩, H241_⟩ := Holds.gift H234_
    replace H241_ : Holds w225_ (ro R236_ :: cl b15_ 34 [(Value.int .i64 ((vLast L).rev_Main)), (Value.int .i64 ((vLast L).rev_Sub)), gv] :: cl b2_ 34 [(Value.int .i64 ((vLast L).rev_Main)), (Value.int .i64 ((vLast L).rev_Sub)), gv] :: F) := H241_
    have hz_R_R236_ := Sub.trans' hz_R_R229_ hs237_
    have hz_R1_R236_ := Sub.trans' hs230_ hs237_
    have hr242_ : RS R236_ 4 gv (List.length (N0 ++ T)) ((N0 ++ T).flatMap GN.cells) := (sl_RS ha239_ (Sub.rfl' _)).mono hs240_
    have H243_ : Holds w225_ (ro R236_ :: F) := (Holds.pkF H241_ [0] 2 :)
    exact ⟨R236_, _, _, rfl, hz_R_R236_, ⟨gv, rfl, rfl, (⟨N0 ++ T, dGens_no hm (by simp_all), hr242_, GOk_app hN hz_R1_R236_ hT (RS.mono hr235_ hs237_)⟩)⟩, S228_, H243_⟩
  ·have c178_fp : ¬ (0 < ((List.length L) : Int)) := of_decide_eq_false c178_f
   refine S_no (j := 3) (dj := 57) (b := false) rfl rfl (congrArg Value.bool c178_f) (by decide) ?_
   refine S_no (j := 3) (dj := 57) (b := false) rfl rfl (congrArg Value.bool c178_f) (by decide) ?_
   refine S_no (j := 3) (dj := 57) (b := false) rfl rfl (congrArg Value.bool c178_f) (by decide) ?_
   refine S_list (T_pickF (v := (Value.bool false)) (congrArg Value.bool c178_f) rfl ?_)
   refine wpList_nil ?_
   refine (X_then (hK177_ _ _ ?_))
   clear hK177_
   refine C_condF rfl ?_
   refine C_skip (X_then (hK176_ _ _ ?_))
   clear hK176_
   refine C_seq (fun K244_ hK244_ => ?_)
   refine C_reg ?_
   refine S_list (T_val (v := (Value.agg #[(Value.int .i64 ((vLast L).rev_Main)), (Value.int .i64 ((vLast L).rev_Sub)), gv])) (x_loadN (vs := [(Value.int .i64 ((vLast L).rev_Main)), (Value.int .i64 ((vLast L).rev_Sub)), gv]) rfl Try.underlying34 rfl z34 rfl (Rd.cells (Holds.rd H31_ 2 rfl) 0 rfl)) ?_)
   refine S_list0 (T_storeN (vs := [(Value.int .i64 ((vLast L).rev_Main)), (Value.int .i64 ((vLast L).rev_Sub)), gv]) rfl rfl z34 rfl (List.forall_mem_cons.2 ⟨rfl, (List.forall_mem_cons.2 ⟨rfl, (List.forall_mem_cons.2 ⟨(Holds.sl_one H31_ 1 rfl), (fun _ h__ => by cases h__)⟩)⟩)⟩) H31_ 4 rfl (Nat.le_of_ble_eq_true (by rfl)) ?_)
   intro w245_ S247_ H246_
   have S248_ := Same.trans S32_ S247_
   refine wpList_nil ?_
   refine (X_then (hK244_ _ _ ?_))
   clear hK244_
   refine C_ret ?_
   refine R_any (v := (Value.agg #[(Value.int .i64 ((vLast L).rev_Main)), (Value.int .i64 ((vLast L).rev_Sub)), gv])) (run_results1 rfl ⟨_, rfl, load_resN Try.underlying34 rfl z34 rfl (vs := [(Value.int .i64 ((vLast L).rev_Main)), (Value.int .i64 ((vLast L).rev_Sub)), gv]) (Holds.cl_cells H246_ 4 rfl 0 rfl)⟩) ?_
   have hk_ : k = L.length := (by omega)
   rw [hk_, List.take_length] at hm
   have H249_ := ((Holds.bring H246_ 3 rfl) :)
   obtain ⟨R250_, hs251_, ⟨R252_, ha253_, hs254_⟩, H255_⟩ := Holds.gift H249_
   replace H255_ : Holds w245_ (ro R250_ :: sl 68 4 gv (List.length (N0 ++ T)) ((N0 ++ T).flatMap GN.cells) :: cl b15_ 34 [(Value.int .i64 ((vLast L).rev_Main)), (Value.int .i64 ((vLast L).rev_Sub)), gv] :: cl b2_ 34 [(Value.int .i64 ((vLast L).rev_Main)), (Value.int .i64 ((vLast L).rev_Sub)), gv] :: F) := H255_
   have hz_R_R250_ := Sub.trans' hsR1 hs251_
   have hr256_ : RS R250_ 2 lv (List.length ll) (ll.flatMap RV.cells) := (sl_RS ha253_ (Sub.rfl' _)).mono hs254_
   obtain ⟨R257_, hs258_, ⟨R259_, ha260_, hs261_⟩, H262_⟩ := Holds.gift H255_
   have hz_R_R257_ := Sub.trans' hz_R_R250_ hs258_
   have hz_R1_R257_ := Sub.trans' hs251_ hs258_
   have hr263_ : RS R257_ 4 gv (List.length (N0 ++ T)) ((N0 ++ T).flatMap GN.cells) := (sl_RS ha260_ (Sub.rfl' _)).mono hs261_
   have H264_ : Holds w245_ (ro R257_ :: F) := (Holds.pkF H262_ [0] 2 :)
   exact ⟨R257_, _, _, rfl, hz_R_R257_, ⟨gv, rfl, rfl, (⟨N0 ++ T, dGens_no hm (by simp_all), hr263_, GOk_app hN hz_R1_R257_ hT (RS.mono hr256_ hs258_)⟩)⟩, S248_, H264_⟩
end Go.Proofs.Ytiblemgccgbhoaa
