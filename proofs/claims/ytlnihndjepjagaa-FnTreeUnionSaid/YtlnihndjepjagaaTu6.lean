/- Words, and proved steps, on which the proof leans. -/
import Derived.Test.YtlnihndjepjagaaTu5
set_option linter.unusedVariables false
set_option linter.unusedSimpArgs false
namespace Go.Proofs.Ytlnihndjepjagaa
open Go Go.RowKit Gw Try
open Go.Value renaming int → vI, bool → vB, slice → vS, pointer → vP, agg → vA, tuple → vT

structure TA where
  oK : Bool
  n : Int
  most : Int
  list : Value
  vals : Value
def TA.cells (x : TA) : List Value := [(vB x.oK), (vI .i64 x.n), (vI .i64 x.most), x.list, x.vals]
theorem TA.len (x : TA) : x.cells.length = 5 := rfl

def TO.sn (o : TO) : SN := ⟨o.in__In_Begin, o.in__In_End, o.in__In_Point, o.in__From, o.in__Till⟩
structure TAx where
  ok : Bool
  n : Int
  L : List SN
  V : List Int
def AnsAt (R : HP) (a : TA) (x : TAx) : Prop := a.oK = x.ok ∧ a.n = x.n ∧ RS R 5 a.list x.L.length (x.L.flatMap SN.cells) ∧ RS R 1 a.vals x.V.length (x.V.map (vI .i64))
theorem AnsAt.mono {R R' : HP} (s : Sub R R') {a : TA} {x : TAx} (h : AnsAt R a x) : AnsAt R' a x := ⟨h.1, h.2.1, h.2.2.1.mono s, h.2.2.2.mono s⟩
def sameK (ord : Int) (lo hi : EK) (e : IE) : Bool := decide (ecm ord lo e.lo = 0) && decide (ecm ord hi e.hi = 0)
theorem sameK_iff {ord : Int} {lo hi : EK} {e : IE} : sameK ord lo hi e = true ↔ e.lo = lo ∧ e.hi = hi := by
  unfold sameK
  rw [Bool.and_eq_true, decide_eq_true_eq, decide_eq_true_eq]
  constructor
  · exact fun h => ⟨(ecm_anti ord h.1).symm, (ecm_anti ord h.2).symm⟩
  · rintro ⟨h1, h2⟩
    rw [h1, h2, ecm_refl, ecm_refl]
    exact ⟨rfl, rfl⟩
def UniqK (M : List IE) : Prop := ∀ e ∈ M, ∀ e' ∈ M, e.lo = e'.lo → e.hi = e'.hi → e = e'
def findX (ord : Int) (M : List IE) (lo hi : EK) : TAx := match M.find? (sameK ord lo hi) with | none => ⟨false, 0, [], []⟩ | some e => ⟨true, 0, [spanOf e], [e.val]⟩
theorem findX_hit {ord : Int} {M : List IE} {lo hi : EK} {e : IE} (hu : UniqK M) (he : e ∈ M) (h1 : e.lo = lo) (h2 : e.hi = hi) : findX ord M lo hi = ⟨true, 0, [spanOf e], [e.val]⟩ := by
  unfold findX
  cases hf : M.find? (sameK ord lo hi) with
  | none =>
    have := List.find?_eq_none.1 hf e he
    exact absurd (sameK_iff.2 ⟨h1, h2⟩) this
  | some e' =>
    have h3 := sameK_iff.1 (List.find?_some hf)
    have h4 := List.mem_of_find?_eq_some hf
    rw [hu e he e' h4 (h1.trans h3.1.symm) (h2.trans h3.2.symm)]
theorem findX_miss {ord : Int} {M : List IE} {lo hi : EK} (h : ∀ e ∈ M, ¬ (e.lo = lo ∧ e.hi = hi)) : findX ord M lo hi = ⟨false, 0, [], []⟩ := by
  unfold findX
  have : M.find? (sameK ord lo hi) = none := List.find?_eq_none.2 fun e he hs => h e he (sameK_iff.1 hs)
  rw [this]
def visS (n : Int) (l : List IE) : List IE := if n ≤ 0 then l else l.take n.toNat
theorem run_tv (n : Int) : ∀ (L : List (ND EK)) (s : List IE), (n ≤ 0 ∨ (s.length : Int) < n) → (runV (tvStep n) L s).1 = s ++ (if n ≤ 0 then L.map eOf else (L.map eOf).take (n.toNat - s.length))
  | [], s, _ => by simp [runV]
  | x :: L, s, h => by
    rw [runV]
    by_cases hg : (tvStep n s x).2 = true
    · rw [if_pos hg]
      have hg' : n ≤ 0 ∨ ((s ++ [eOf x]).length : Int) < n := by
        have : goesOn n (s ++ [eOf x]).length = true := hg
        unfold goesOn at this
        simpa using this
      show (runV (tvStep n) L (s ++ [eOf x])).1 = _
      rw [run_tv n L _ hg']
      by_cases h0 : n ≤ 0
      · rw [if_pos h0, if_pos h0]; simp
      · rw [if_neg h0, if_neg h0, List.map_cons]
        have e1 : n.toNat - s.length = (n.toNat - (s ++ [eOf x]).length) + 1 := by
          rw [List.length_append] at hg' ⊢
          simp at hg' ⊢
          omega
        rw [e1, List.take_succ_cons]
        simp
    · rw [if_neg hg]
      show s ++ [eOf x] = _
      have hg' : ¬ (n ≤ 0 ∨ ((s ++ [eOf x]).length : Int) < n) := fun h => hg (by
        show goesOn n (s ++ [eOf x]).length = true
        unfold goesOn
        simpa using h)
      have h0 : ¬ n ≤ 0 := fun h => hg' (.inl h)
      have e1 : n.toNat - s.length = 1 := by
        rw [List.length_append] at hg'
        simp at hg'
        omega
      rw [if_neg h0, e1, List.map_cons]
      rfl
theorem TS.vis {ord : Int} {R : HP} {W : Tr EK} {M : List IE} (h : TS ord R W M) (hp : PrpK ord M) {lo hi : EK} (hq : ecm ord lo hi < 0) (n : Int) : (Go.Proofs.Ytlnihndjepjagaa.vis (EO ord) (tvStep n) lo hi W []).1 = visS n (M.filter (meetK ord lo hi)) := by
  rw [vis_eq (O := EO ord) (step := tvStep n) (fun s n => rfl) hq [] h.s h.ok.2.1 (h.prp hp), run_tv n _ [] (by simp; omega), meets_filter h.m]
  unfold visS
  simp
def insAll (ord : Int) (M N : List IE) : List IE := N.foldl (fun M e => insK ord e M) M
theorem run_tu (ord : Int) : ∀ (L : List (ND EK)) (M : List IE), (runV (tuStep ord) L M).1 = insAll ord M (L.map eOf)
  | [], M => rfl
  | x :: L, M => by
    rw [runV, if_pos (show (tuStep ord M x).2 = true from rfl), List.map_cons]
    show (runV (tuStep ord) L (insK ord (eOf x) M)).1 = _
    rw [run_tu ord L]
    rfl
theorem TS.uni {ord : Int} {R : HP} {U : Tr EK} {N : List IE} (h : TS ord R U N) (hp : PrpK ord N) {lo hi : EK} (hq : ecm ord lo hi < 0) (M : List IE) : (Go.Proofs.Ytlnihndjepjagaa.vis (EO ord) (tuStep ord) lo hi U M).1 = insAll ord M (N.filter (meetK ord lo hi)) := by
  rw [vis_eq (O := EO ord) (step := tuStep ord) (fun s n => rfl) hq M h.s h.ok.2.1 (h.prp hp), run_tu, meets_filter h.m]
theorem insAll_len {ord : Int} : ∀ (N M : List IE), (insAll ord M N).length = M.length + N.length
  | [], M => rfl
  | x :: N, M => by
    show (insAll ord (insK ord x M) N).length = _
    rw [insAll_len N, insK_len, List.length_cons]; omega

end Go.Proofs.Ytlnihndjepjagaa
set_option linter.unusedVariables false
set_option linter.unusedSimpArgs false
namespace Go.Proofs.Ytlnihndjepjagaa
open Go Go.RowKit Gw Try
open Go.Value renaming int → vI, bool → vB, slice → vS, pointer → vP, agg → vA, tuple → vT

set_option maxHeartbeats 8000000 in
theorem tdoIns (R : HP) (ord : Int) (tb sb : Nat) (sc : List Value) (W : Tr EK) (M : List IE) (o : TO) (hM : TS ord R W M) (hok : SnOk ord o.sn) (hml : M.length ≤ 10000000) (hk : o.kind = 1) :
    TriG Try.prog 63 #[(Value.iface 186 (vQ tb)), (vI .i64 ord), (vA #[(vI .i64 o.kind), (Value.string o.in__In_Begin), (Value.string o.in__In_End), (vB o.in__In_Point), (vI .i64 o.in__From), (vI .i64 o.in__Till), (vI .i64 o.val), (vI .i64 o.n), o.other, o.vals])] R [cl tb 188 [(vQ (rt sb W)), (vI .i64 (List.length M : Int)), (vQ sb)], tr sb sb W, clf sb 185 sc] (fun R' v__ post__ => ∃ (a : TA) (W2 : Tr EK), v__ = (vA #[(vB a.oK), (vI .i64 a.n), (vI .i64 a.most), a.list, a.vals]) ∧ post__ = [cl tb 188 [(vQ (rt sb W2)), (vI .i64 (List.length (insK ord ⟨o.sn.lo ord, o.sn.hi ord, o.val⟩ M) : Int)), (vQ sb)], tr sb sb W2, clf sb 185 sc] ∧ (TS ord R' W2 (insK ord ⟨o.sn.lo ord, o.sn.hi ord, o.val⟩ M)) ∧ (AnsAt R' a (⟨false, 0, [], []⟩ : TAx))) := by
 refine TriG.into (n := 133) (al := [(Value.iface 186 (vQ tb)), (vI .i64 ord), (vA #[(vI .i64 o.kind), (Value.string o.in__In_Begin), (Value.string o.in__In_End), (vB o.in__In_Point), (vI .i64 o.in__From), (vI .i64 o.in__Till), (vI .i64 o.val), (vI .i64 o.n), o.other, o.vals])]) func63 rfl ntmps63 rfl rfl fun w F H => ?_
 refine cr fun _ hK1_ => ?_
 refine S_list (T_box (v := (vA #[(vI .i64 o.kind), (Value.string o.in__In_Begin), (Value.string o.in__In_End), (vB o.in__In_Point), (vI .i64 o.in__From), (vI .i64 o.in__Till), (vI .i64 o.val), (vI .i64 o.n), o.other, o.vals])) rfl H ?_)
 intro b2_ w3_ S5_ H4_
 have S6_ := Same.trans (Same.refl w) S5_
 refine S_list (T_alloc z59 H4_ ?_)
 intro b7_ w8_ S10_ H9_
 have S11_ := Same.trans S6_ S10_
 refine wn (hK1_ _ _ ?_)
 refine cr fun _ hK12_ => ?_
 refine sv (v := (vA #[(vB false), (vI .i64 0), (vI .i64 0), (vS none 0 0), (vS none 0 0)])) (by kernel_rfl) ?_
 refine S_list (T_alloc z59 H9_ ?_)
 intro b13_ w14_ S16_ H15_
 have S17_ := Same.trans S11_ S16_
 refine S_list0 (T_storeN (vs := [(vB false), (vI .i64 0), (vI .i64 0), (vS none 0 0), (vS none 0 0)]) rfl rfl z59 rfl (by simp [Value.oneCell']) H15_ 0 rfl (Nat.le_of_ble_eq_true (by rfl)) ?_)
 intro w18_ S20_ H19_
 have S21_ := Same.trans S17_ S20_
 refine wn (hK12_ _ _ ?_)
 refine cr fun _ hK22_ => ?_
 refine sm (vI .i64 ord) ?_
 refine sv (v := (vP (some ⟨b2_, 1, none⟩))) (by kernel_rfl) ?_
 refine sv (v := (vA #[(Value.string o.in__In_Begin), (Value.string o.in__In_End), (vB o.in__In_Point), (vI .i64 o.in__From), (vI .i64 o.in__Till)])) (x_loadN (vs := [(Value.string o.in__In_Begin), (Value.string o.in__In_End), (vB o.in__In_Point), (vI .i64 o.in__From), (vI .i64 o.in__Till)]) rfl underlying44 rfl z44 rfl (Rd.cells (Holds.rd H19_ 2 rfl) 1 rfl)) ?_
 have H32_ := ((Holds.bring H19_ 3 rfl) :)
 refine S_list (T_callG (al := [(vI .i64 ord), (vA #[(Value.string o.sn.in__Begin), (Value.string o.sn.in__End), (vB o.sn.in__Point), (vI .i64 o.sn.from_), (vI .i64 o.sn.till)])]) (pre := []) rfl (lcons rfl (lcons (congrArg (fun l => vA (List.toArray l)) (lcons (congrArg Value.string ((by first | rfl | omega | (simp; done) | (simp; omega)) : o.in__In_Begin = o.sn.in__Begin)) (lcons (congrArg Value.string ((by first | rfl | omega | (simp; done) | (simp; omega)) : o.in__In_End = o.sn.in__End)) (lcons (congrArg vB ((by first | rfl | omega | (simp; done) | (simp; omega)) : o.in__In_Point = o.sn.in__Point)) (lcons (congrArg (vI .i64) ((by first | rfl | omega | (simp; done) | (simp; omega)) : o.in__From = o.sn.from_)) (lcons (congrArg (vI .i64) ((by first | rfl | omega | (simp; done) | (simp; omega)) : o.in__Till = o.sn.till)) rfl)))))) rfl)) cb85 (spIn R ord o.sn (hok)) H32_ ?_)
 rintro R24_ v25_ p36_ w33_ hs23_ ⟨t126_, t227_, x128_, x229_, rfl, rfl, he30_, he31_⟩ S35_ H34_
 have S37_ := Same.trans S21_ S35_
 refine S_list (T_alloc z111 H34_ ?_)
 intro b38_ w39_ S41_ H40_
 have S42_ := Same.trans S37_ S41_
 refine S_list0 (T_storeN (vs := [((Value.iface t126_ x128_)), ((Value.iface t227_ x229_))]) rfl rfl z111 rfl (by simp [Value.oneCell']) H40_ 0 rfl (Nat.le_of_ble_eq_true (by rfl)) ?_)
 intro w43_ S45_ H44_
 have S46_ := Same.trans S42_ S45_
 refine wn (hK22_ _ _ ?_)
 refine cr fun _ hK47_ => ?_
 refine sv (v := (Value.func (.func 86) #[] #[(vQ b13_)])) (by kernel_rfl) ?_
 refine S_list (T_alloc z190 H44_ ?_)
 intro b48_ w49_ S51_ H50_
 have S52_ := Same.trans S46_ S51_
 refine S_list0 (T_store1 (v := (Value.func (.func 86) #[] #[(vQ b13_)])) rfl rfl z190 rfl H50_ 0 rfl (Nat.le_of_ble_eq_true (by rfl)) ?_)
 intro w53_ S55_ H54_
 have S56_ := Same.trans S52_ S55_
 refine wn (hK47_ _ _ ?_)
 refine C_seq (fun _ hK57_ => ?_)
 refine cr fun _ hK58_ => ?_
 refine sv (v := (vQ b2_)) (by kernel_rfl) ?_
 refine sv (v := (vI .i64 o.kind)) (x_load1 rfl underlying3 rfl ((Holds.rd H54_ 5 rfl) 0 (vI .i64 o.kind) rfl)) ?_
 refine wn (hK58_ _ _ ?_)
 refine C_block ?_
 refine cr fun _ hK59_ => ?_
 refine sv (v := (vB (decide (o.kind = 1)))) (x_bin rfl rfl rfl) ?_
 refine sv (v := (vB (decide (o.kind = 1)))) (x_assign rfl) ?_
 refine wn (hK59_ _ _ ?_)
 refine C_cond (b := decide (o.kind = 1)) rfl (fun c60_t => ?_) (fun c60_f => ?_)
 ·have c60_tp : o.kind = 1 := of_decide_eq_true c60_t
  refine C_reg ?_
  refine sm (Value.iface 186 (vQ tb)) ?_
  refine sv (v := (vA #[((Value.iface t126_ x128_)), ((Value.iface t227_ x229_))])) (x_loadN (vs := [((Value.iface t126_ x128_)), ((Value.iface t227_ x229_))]) rfl underlying111 rfl z111 rfl (Rd.cells (Holds.rd H54_ 1 rfl) 0 rfl)) ?_
  refine sv (v := (vP (some ⟨b2_, 6, none⟩))) (by kernel_rfl) ?_
  refine sv (v := (vI .i64 o.val)) (x_load1 rfl underlying3 rfl ((Holds.rd H54_ 5 rfl) 6 (vI .i64 o.val) rfl)) ?_
  refine sv (v := (Value.iface 3 (vI .i64 o.val))) (by kernel_rfl) ?_
  have H73_ := ((Holds.bring (Holds.bring (Holds.bring (Holds.bring H54_ 8 rfl) 8 rfl) 8 rfl) 5 rfl) :)
  refine S_list (T_invoke (al := [(vQ tb), (vA #[((Value.iface t126_ x128_)), ((Value.iface t227_ x229_))]), ((Value.iface 3 (vI .i64 o.val)))]) (pre := [cl tb 188 [(vQ (rt sb W)), (vI .i64 (List.length M : Int)), (vQ sb)], tr sb sb W, clf sb 185 sc]) rfl (fun w => by kernel_rfl) (lcons rfl (lcons rfl (lcons (rfl : (Value.iface 3 (vI .i64 o.val)) = ((Value.iface 3 (vI .i64 o.val)))) rfl))) cb147 (itInsert R24_ EK (EO ord) tb sb (List.length M : Int) sc W t126_ t227_ 3 x128_ x229_ (vI .i64 o.val) (o.sn.lo ord) (o.sn.hi ord) (((hM.mono hs23_)).ok) (he30_) (he31_) (by omega) (hM.s)) H73_ ?_)
  rintro v61_ p77_ w74_ ⟨W62_, L163_, L264_, z65_, rfl, rfl, he66_, he67_, he68_, he69_, he70_, he71_, he72_⟩ S76_ H75_
  have S78_ := Same.trans S56_ S76_
  have hTn79_ : TS ord R24_ W62_ (insK ord ⟨o.sn.lo ord, o.sn.hi ord, o.val⟩ M) := TS.ins (hM.mono hs23_) he66_ he67_ he68_ he69_ he70_ he71_ he72_
  refine wpList_nil (X_blkN (X_then (hK57_ _ _ ?_)))
  refine cr fun _ hK80_ => ?_
  refine sv (v := (vA #[(vB false), (vI .i64 0), (vI .i64 0), (vS none 0 0), (vS none 0 0)])) (x_loadN (vs := [(vB false), (vI .i64 0), (vI .i64 0), (vS none 0 0), (vS none 0 0)]) rfl underlying59 rfl z59 rfl (Rd.cells (Holds.rd H75_ 6 rfl) 0 rfl)) ?_
  refine S_list0 (T_storeN (vs := [(vB false), (vI .i64 0), (vI .i64 0), (vS none 0 0), (vS none 0 0)]) rfl rfl z59 rfl (by simp [Value.oneCell']) H75_ 7 rfl (Nat.le_of_ble_eq_true (by rfl)) ?_)
  intro w81_ S83_ H82_
  have S84_ := Same.trans S78_ S83_
  refine wn (hK80_ _ _ ?_)
  refine C_ret ?_
  refine R_any (v := (vA #[(vB false), (vI .i64 0), (vI .i64 0), (vS none 0 0), (vS none 0 0)])) (run_results1 rfl ⟨_, rfl, load_resN underlying59 rfl z59 rfl (vs := [(vB false), (vI .i64 0), (vI .i64 0), (vS none 0 0), (vS none 0 0)]) (Holds.cl_cells H82_ 7 rfl 0 rfl)⟩) ?_
  have H85_ := Holds.recl H82_ 1 rfl ((lcons rfl (lcons (congrArg (vI .i64) ((by rw [insK_len]; rfl) : (List.length M : Int) + 1 = (List.length (insK ord ⟨o.sn.lo ord, o.sn.hi ord, o.val⟩ M) : Int))) rfl)) : [(vQ (rt sb W62_)), (vI .i64 ((List.length M : Int) + 1)), (vQ sb)] = [(vQ (rt sb W62_)), (vI .i64 (List.length (insK ord ⟨o.sn.lo ord, o.sn.hi ord, o.val⟩ M) : Int)), (vQ sb)])
  have H86_ := Holds.pkF H85_ [0, 0, 0, 0] 5
  exact ⟨R24_, _, _, rfl, hs23_, ⟨(⟨false, 0, 0, (vS none 0 0), (vS none 0 0)⟩ : TA), W62_, (congrArg (fun l => vA (List.toArray l)) (lcons (congrArg vB ((by first | rfl | omega | (simp; done) | (simp; omega)) : false = ((⟨false, 0, 0, (vS none 0 0), (vS none 0 0)⟩ : TA).oK))) (lcons (congrArg (vI .i64) ((by first | rfl | omega | (simp; done) | (simp; omega)) : 0 = (⟨false, 0, 0, (vS none 0 0), (vS none 0 0)⟩ : TA).n)) (lcons (congrArg (vI .i64) ((by first | rfl | omega | (simp; done) | (simp; omega)) : 0 = (⟨false, 0, 0, (vS none 0 0), (vS none 0 0)⟩ : TA).most)) (lcons ((by first | rfl | omega | (simp; done) | (simp; omega)) : (vS none 0 0) = ((⟨false, 0, 0, (vS none 0 0), (vS none 0 0)⟩ : TA).list)) (lcons ((by first | rfl | omega | (simp; done) | (simp; omega)) : (vS none 0 0) = ((⟨false, 0, 0, (vS none 0 0), (vS none 0 0)⟩ : TA).vals)) rfl)))))), rfl, (hTn79_), (⟨rfl, rfl, RS.nil _ _, RS.nil _ _⟩)⟩, S84_, H86_⟩
 ·have c60_fp : ¬ (o.kind = 1) := of_decide_eq_false c60_f
  omega
end Go.Proofs.Ytlnihndjepjagaa
set_option linter.unusedVariables false
set_option linter.unusedSimpArgs false
namespace Go.Proofs.Ytlnihndjepjagaa
open Go Go.RowKit Gw Try
open Go.Value renaming int → vI, bool → vB, slice → vS, pointer → vP, agg → vA, tuple → vT

set_option maxHeartbeats 8000000 in
theorem tdoLen (R : HP) (ord : Int) (tb sb : Nat) (sc : List Value) (W : Tr EK) (M : List IE) (o : TO) (hM : TS ord R W M) (hok : SnOk ord o.sn) (hml : M.length ≤ 10000000) (hk : o.kind = 8) :
    TriG Try.prog 63 #[(Value.iface 186 (vQ tb)), (vI .i64 ord), (vA #[(vI .i64 o.kind), (Value.string o.in__In_Begin), (Value.string o.in__In_End), (vB o.in__In_Point), (vI .i64 o.in__From), (vI .i64 o.in__Till), (vI .i64 o.val), (vI .i64 o.n), o.other, o.vals])] R [cl tb 188 [(vQ (rt sb W)), (vI .i64 (List.length M : Int)), (vQ sb)], tr sb sb W, clf sb 185 sc] (fun R' v__ post__ => ∃ (a : TA) (W2 : Tr EK), v__ = (vA #[(vB a.oK), (vI .i64 a.n), (vI .i64 a.most), a.list, a.vals]) ∧ post__ = [cl tb 188 [(vQ (rt sb W2)), (vI .i64 (List.length M : Int)), (vQ sb)], tr sb sb W2, clf sb 185 sc] ∧ (TS ord R' W2 M) ∧ (AnsAt R' a (⟨false, M.length, [], []⟩ : TAx))) := by
 refine TriG.into (n := 133) (al := [(Value.iface 186 (vQ tb)), (vI .i64 ord), (vA #[(vI .i64 o.kind), (Value.string o.in__In_Begin), (Value.string o.in__In_End), (vB o.in__In_Point), (vI .i64 o.in__From), (vI .i64 o.in__Till), (vI .i64 o.val), (vI .i64 o.n), o.other, o.vals])]) func63 rfl ntmps63 rfl rfl fun w F H => ?_
 refine cr fun _ hK1_ => ?_
 refine S_list (T_box (v := (vA #[(vI .i64 o.kind), (Value.string o.in__In_Begin), (Value.string o.in__In_End), (vB o.in__In_Point), (vI .i64 o.in__From), (vI .i64 o.in__Till), (vI .i64 o.val), (vI .i64 o.n), o.other, o.vals])) rfl H ?_)
 intro b2_ w3_ S5_ H4_
 have S6_ := Same.trans (Same.refl w) S5_
 refine S_list (T_alloc z59 H4_ ?_)
 intro b7_ w8_ S10_ H9_
 have S11_ := Same.trans S6_ S10_
 refine wn (hK1_ _ _ ?_)
 refine cr fun _ hK12_ => ?_
 refine sv (v := (vA #[(vB false), (vI .i64 0), (vI .i64 0), (vS none 0 0), (vS none 0 0)])) (by kernel_rfl) ?_
 refine S_list (T_alloc z59 H9_ ?_)
 intro b13_ w14_ S16_ H15_
 have S17_ := Same.trans S11_ S16_
 refine S_list0 (T_storeN (vs := [(vB false), (vI .i64 0), (vI .i64 0), (vS none 0 0), (vS none 0 0)]) rfl rfl z59 rfl (by simp [Value.oneCell']) H15_ 0 rfl (Nat.le_of_ble_eq_true (by rfl)) ?_)
 intro w18_ S20_ H19_
 have S21_ := Same.trans S17_ S20_
 refine wn (hK12_ _ _ ?_)
 refine cr fun _ hK22_ => ?_
 refine sm (vI .i64 ord) ?_
 refine sv (v := (vP (some ⟨b2_, 1, none⟩))) (by kernel_rfl) ?_
 refine sv (v := (vA #[(Value.string o.in__In_Begin), (Value.string o.in__In_End), (vB o.in__In_Point), (vI .i64 o.in__From), (vI .i64 o.in__Till)])) (x_loadN (vs := [(Value.string o.in__In_Begin), (Value.string o.in__In_End), (vB o.in__In_Point), (vI .i64 o.in__From), (vI .i64 o.in__Till)]) rfl underlying44 rfl z44 rfl (Rd.cells (Holds.rd H19_ 2 rfl) 1 rfl)) ?_
 have H32_ := ((Holds.bring H19_ 3 rfl) :)
 refine S_list (T_callG (al := [(vI .i64 ord), (vA #[(Value.string o.sn.in__Begin), (Value.string o.sn.in__End), (vB o.sn.in__Point), (vI .i64 o.sn.from_), (vI .i64 o.sn.till)])]) (pre := []) rfl (lcons rfl (lcons (congrArg (fun l => vA (List.toArray l)) (lcons (congrArg Value.string ((by first | rfl | omega | (simp; done) | (simp; omega)) : o.in__In_Begin = o.sn.in__Begin)) (lcons (congrArg Value.string ((by first | rfl | omega | (simp; done) | (simp; omega)) : o.in__In_End = o.sn.in__End)) (lcons (congrArg vB ((by first | rfl | omega | (simp; done) | (simp; omega)) : o.in__In_Point = o.sn.in__Point)) (lcons (congrArg (vI .i64) ((by first | rfl | omega | (simp; done) | (simp; omega)) : o.in__From = o.sn.from_)) (lcons (congrArg (vI .i64) ((by first | rfl | omega | (simp; done) | (simp; omega)) : o.in__Till = o.sn.till)) rfl)))))) rfl)) cb85 (spIn R ord o.sn (hok)) H32_ ?_)
 rintro R24_ v25_ p36_ w33_ hs23_ ⟨t126_, t227_, x128_, x229_, rfl, rfl, he30_, he31_⟩ S35_ H34_
 have S37_ := Same.trans S21_ S35_
 refine S_list (T_alloc z111 H34_ ?_)
 intro b38_ w39_ S41_ H40_
 have S42_ := Same.trans S37_ S41_
 refine S_list0 (T_storeN (vs := [((Value.iface t126_ x128_)), ((Value.iface t227_ x229_))]) rfl rfl z111 rfl (by simp [Value.oneCell']) H40_ 0 rfl (Nat.le_of_ble_eq_true (by rfl)) ?_)
 intro w43_ S45_ H44_
 have S46_ := Same.trans S42_ S45_
 refine wn (hK22_ _ _ ?_)
 refine cr fun _ hK47_ => ?_
 refine sv (v := (Value.func (.func 86) #[] #[(vQ b13_)])) (by kernel_rfl) ?_
 refine S_list (T_alloc z190 H44_ ?_)
 intro b48_ w49_ S51_ H50_
 have S52_ := Same.trans S46_ S51_
 refine S_list0 (T_store1 (v := (Value.func (.func 86) #[] #[(vQ b13_)])) rfl rfl z190 rfl H50_ 0 rfl (Nat.le_of_ble_eq_true (by rfl)) ?_)
 intro w53_ S55_ H54_
 have S56_ := Same.trans S52_ S55_
 refine wn (hK47_ _ _ ?_)
 refine C_seq (fun _ hK57_ => ?_)
 refine cr fun _ hK58_ => ?_
 refine sv (v := (vQ b2_)) (by kernel_rfl) ?_
 refine sv (v := (vI .i64 o.kind)) (x_load1 rfl underlying3 rfl ((Holds.rd H54_ 5 rfl) 0 (vI .i64 o.kind) rfl)) ?_
 refine wn (hK58_ _ _ ?_)
 refine C_block ?_
 refine cr fun _ hK59_ => ?_
 refine sv (v := (vB (decide (o.kind = 1)))) (x_bin rfl rfl rfl) ?_
 refine sv (v := (vB (decide (o.kind = 1)))) (x_assign rfl) ?_
 refine wn (hK59_ _ _ ?_)
 refine C_cond (b := decide (o.kind = 1)) rfl (fun c60_t => ?_) (fun c60_f => ?_)
 ·have c60_tp : o.kind = 1 := of_decide_eq_true c60_t
  omega
 ·have c60_fp : ¬ (o.kind = 1) := of_decide_eq_false c60_f
  refine cr fun _ hK61_ => ?_
  refine sv (v := (vB (decide (o.kind = 2)))) (x_bin rfl rfl rfl) ?_
  refine sv (v := (vB (decide (o.kind = 2)))) (x_assign rfl) ?_
  refine wn (hK61_ _ _ ?_)
  refine C_cond (b := decide (o.kind = 2)) rfl (fun c62_t => ?_) (fun c62_f => ?_)
  ·have c62_tp : o.kind = 2 := of_decide_eq_true c62_t
   omega
  ·have c62_fp : ¬ (o.kind = 2) := of_decide_eq_false c62_f
   refine cr fun _ hK63_ => ?_
   refine sv (v := (vB (decide (o.kind = 3)))) (x_bin rfl rfl rfl) ?_
   refine sv (v := (vB (decide (o.kind = 3)))) (x_assign rfl) ?_
   refine wn (hK63_ _ _ ?_)
   refine C_cond (b := decide (o.kind = 3)) rfl (fun c64_t => ?_) (fun c64_f => ?_)
   ·have c64_tp : o.kind = 3 := of_decide_eq_true c64_t
    omega
   ·have c64_fp : ¬ (o.kind = 3) := of_decide_eq_false c64_f
    refine cr fun _ hK65_ => ?_
    refine sv (v := (vB (decide (o.kind = 4)))) (x_bin rfl rfl rfl) ?_
    refine sv (v := (vB (decide (o.kind = 4)))) (x_assign rfl) ?_
    refine wn (hK65_ _ _ ?_)
    refine C_cond (b := decide (o.kind = 4)) rfl (fun c66_t => ?_) (fun c66_f => ?_)
    ·have c66_tp : o.kind = 4 := of_decide_eq_true c66_t
     omega
    ·have c66_fp : ¬ (o.kind = 4) := of_decide_eq_false c66_f
     refine cr fun _ hK67_ => ?_
     refine sv (v := (vB (decide (o.kind = 5)))) (x_bin rfl rfl rfl) ?_
     refine sv (v := (vB (decide (o.kind = 5)))) (x_assign rfl) ?_
     refine wn (hK67_ _ _ ?_)
     refine C_cond (b := decide (o.kind = 5)) rfl (fun c68_t => ?_) (fun c68_f => ?_)
     ·have c68_tp : o.kind = 5 := of_decide_eq_true c68_t
      omega
     ·have c68_fp : ¬ (o.kind = 5) := of_decide_eq_false c68_f
      refine cr fun _ hK69_ => ?_
      refine sv (v := (vB (decide (o.kind = 6)))) (x_bin rfl rfl rfl) ?_
      refine sv (v := (vB (decide (o.kind = 6)))) (x_assign rfl) ?_
      refine wn (hK69_ _ _ ?_)
      refine C_cond (b := decide (o.kind = 6)) rfl (fun c70_t => ?_) (fun c70_f => ?_)
      ·have c70_tp : o.kind = 6 := of_decide_eq_true c70_t
       omega
      ·have c70_fp : ¬ (o.kind = 6) := of_decide_eq_false c70_f
       refine cr fun _ hK71_ => ?_
       refine sv (v := (vB (decide (o.kind = 7)))) (x_bin rfl rfl rfl) ?_
       refine sv (v := (vB (decide (o.kind = 7)))) (x_assign rfl) ?_
       refine wn (hK71_ _ _ ?_)
       refine C_cond (b := decide (o.kind = 7)) rfl (fun c72_t => ?_) (fun c72_f => ?_)
       ·have c72_tp : o.kind = 7 := of_decide_eq_true c72_t
        omega
       ·have c72_fp : ¬ (o.kind = 7) := of_decide_eq_false c72_f
        refine cr fun _ hK73_ => ?_
        refine sv (v := (vB (decide (o.kind = 8)))) (x_bin rfl rfl rfl) ?_
        refine sv (v := (vB (decide (o.kind = 8)))) (x_assign rfl) ?_
        refine wn (hK73_ _ _ ?_)
        refine C_cond (b := decide (o.kind = 8)) rfl (fun c74_t => ?_) (fun c74_f => ?_)
        ·have c74_tp : o.kind = 8 := of_decide_eq_true c74_t
         refine C_reg ?_
         refine sm (Value.iface 186 (vQ tb)) ?_
         have H76_ := ((Holds.bring (Holds.bring H54_ 6 rfl) 3 rfl) :)
         refine S_list (T_invoke (al := [(vQ tb)]) (pre := [cl tb 188 [(vQ (rt sb W)), (vI .i64 (List.length M : Int)), (vQ sb)]]) rfl (fun w => by kernel_rfl) rfl cb149 (tdLen R24_ tb sb (List.length M : Int) (rt sb W)) H76_ ?_)
         rintro v75_ p80_ w77_ ⟨rfl, rfl⟩ S79_ H78_
         have S81_ := Same.trans S56_ S79_
         refine sv (v := (vP (some ⟨b13_, 1, none⟩))) (by kernel_rfl) ?_
         refine S_list0 (T_store1 (v := (vI .i64 (List.length M : Int))) rfl rfl z3 rfl H78_ 4 rfl (Nat.le_of_ble_eq_true (by rfl)) ?_)
         intro w82_ S84_ H83_
         have S85_ := Same.trans S81_ S84_
         refine wpList_nil (X_blkN (X_then (hK57_ _ _ ?_)))
         refine cr fun _ hK86_ => ?_
         refine sv (v := (vA #[(vB false), (vI .i64 (List.length M : Int)), (vI .i64 0), (vS none 0 0), (vS none 0 0)])) (x_loadN (vs := [(vB false), (vI .i64 (List.length M : Int)), (vI .i64 0), (vS none 0 0), (vS none 0 0)]) rfl underlying59 rfl z59 rfl (Rd.cells (Holds.rd H83_ 4 rfl) 0 rfl)) ?_
         refine S_list0 (T_storeN (vs := [(vB false), (vI .i64 (List.length M : Int)), (vI .i64 0), (vS none 0 0), (vS none 0 0)]) rfl rfl z59 rfl (by simp [Value.oneCell']) H83_ 5 rfl (Nat.le_of_ble_eq_true (by rfl)) ?_)
         intro w87_ S89_ H88_
         have S90_ := Same.trans S85_ S89_
         refine wn (hK86_ _ _ ?_)
         refine C_ret ?_
         refine R_any (v := (vA #[(vB false), (vI .i64 (List.length M : Int)), (vI .i64 0), (vS none 0 0), (vS none 0 0)])) (run_results1 rfl ⟨_, rfl, load_resN underlying59 rfl z59 rfl (vs := [(vB false), (vI .i64 (List.length M : Int)), (vI .i64 0), (vS none 0 0), (vS none 0 0)]) (Holds.cl_cells H88_ 5 rfl 0 rfl)⟩) ?_
         have H91_ := Holds.pkF H88_ [0, 0, 5, 5] 5
         exact ⟨R24_, _, _, rfl, hs23_, ⟨(⟨false, (List.length M : Int), 0, (vS none 0 0), (vS none 0 0)⟩ : TA), W, (congrArg (fun l => vA (List.toArray l)) (lcons (congrArg vB ((by first | rfl | omega | (simp; done) | (simp; omega)) : false = ((⟨false, (List.length M : Int), 0, (vS none 0 0), (vS none 0 0)⟩ : TA).oK))) (lcons (congrArg (vI .i64) ((by first | rfl | omega | (simp; done) | (simp; omega)) : (List.length M : Int) = (⟨false, (List.length M : Int), 0, (vS none 0 0), (vS none 0 0)⟩ : TA).n)) (lcons (congrArg (vI .i64) ((by first | rfl | omega | (simp; done) | (simp; omega)) : 0 = (⟨false, (List.length M : Int), 0, (vS none 0 0), (vS none 0 0)⟩ : TA).most)) (lcons ((by first | rfl | omega | (simp; done) | (simp; omega)) : (vS none 0 0) = ((⟨false, (List.length M : Int), 0, (vS none 0 0), (vS none 0 0)⟩ : TA).list)) (lcons ((by first | rfl | omega | (simp; done) | (simp; omega)) : (vS none 0 0) = ((⟨false, (List.length M : Int), 0, (vS none 0 0), (vS none 0 0)⟩ : TA).vals)) rfl)))))), rfl, ((hM.mono hs23_)), (⟨rfl, rfl, RS.nil _ _, RS.nil _ _⟩)⟩, S90_, H91_⟩
        ·have c74_fp : ¬ (o.kind = 8) := of_decide_eq_false c74_f
         omega

end Go.Proofs.Ytlnihndjepjagaa
set_option linter.unusedVariables false
set_option linter.unusedSimpArgs false
namespace Go.Proofs.Ytlnihndjepjagaa
open Go Go.RowKit Gw Try
open Go.Value renaming int → vI, bool → vB, slice → vS, pointer → vP, agg → vA, tuple → vT

theorem tk_unplug {K : Type} {O : KO K} {R : HP} : ∀ {C : List (Fr K)} {t : Tr K}, TOk O R (plug C t) → TOk O R t
  | [], t, h => h
  | f :: C, t, h => (TOk.unfill (tk_unplug (C := C) (t := f.fill t) h)).2.2

set_option maxHeartbeats 8000000 in
theorem tdoFind (R : HP) (ord : Int) (tb sb : Nat) (sc : List Value) (W : Tr EK) (M : List IE) (o : TO) (hM : TS ord R W M) (hok : SnOk ord o.sn) (hml : M.length ≤ 10000000) (hun : UniqK M) (hk : o.kind = 3) :
    TriG Try.prog 63 #[(Value.iface 186 (vQ tb)), (vI .i64 ord), (vA #[(vI .i64 o.kind), (Value.string o.in__In_Begin), (Value.string o.in__In_End), (vB o.in__In_Point), (vI .i64 o.in__From), (vI .i64 o.in__Till), (vI .i64 o.val), (vI .i64 o.n), o.other, o.vals])] R [cl tb 188 [(vQ (rt sb W)), (vI .i64 (List.length M : Int)), (vQ sb)], tr sb sb W, clf sb 185 sc] (fun R' v__ post__ => ∃ (a : TA) (W2 : Tr EK), v__ = (vA #[(vB a.oK), (vI .i64 a.n), (vI .i64 a.most), a.list, a.vals]) ∧ post__ = [cl tb 188 [(vQ (rt sb W2)), (vI .i64 (List.length M : Int)), (vQ sb)], tr sb sb W2, clf sb 185 sc] ∧ (TS ord R' W2 M) ∧ (AnsAt R' a (findX ord M (o.sn.lo ord) (o.sn.hi ord)))) := by
 refine TriG.into (n := 133) (al := [(Value.iface 186 (vQ tb)), (vI .i64 ord), (vA #[(vI .i64 o.kind), (Value.string o.in__In_Begin), (Value.string o.in__In_End), (vB o.in__In_Point), (vI .i64 o.in__From), (vI .i64 o.in__Till), (vI .i64 o.val), (vI .i64 o.n), o.other, o.vals])]) func63 rfl ntmps63 rfl rfl fun w F H => ?_
 refine cr fun _ hK1_ => ?_
 refine S_list (T_box (v := (vA #[(vI .i64 o.kind), (Value.string o.in__In_Begin), (Value.string o.in__In_End), (vB o.in__In_Point), (vI .i64 o.in__From), (vI .i64 o.in__Till), (vI .i64 o.val), (vI .i64 o.n), o.other, o.vals])) rfl H ?_)
 intro b2_ w3_ S5_ H4_
 have S6_ := Same.trans (Same.refl w) S5_
 refine S_list (T_alloc z59 H4_ ?_)
 intro b7_ w8_ S10_ H9_
 have S11_ := Same.trans S6_ S10_
 refine wn (hK1_ _ _ ?_)
 refine cr fun _ hK12_ => ?_
 refine sv (v := (vA #[(vB false), (vI .i64 0), (vI .i64 0), (vS none 0 0), (vS none 0 0)])) (by kernel_rfl) ?_
 refine S_list (T_alloc z59 H9_ ?_)
 intro b13_ w14_ S16_ H15_
 have S17_ := Same.trans S11_ S16_
 refine S_list0 (T_storeN (vs := [(vB false), (vI .i64 0), (vI .i64 0), (vS none 0 0), (vS none 0 0)]) rfl rfl z59 rfl (by simp [Value.oneCell']) H15_ 0 rfl (Nat.le_of_ble_eq_true (by rfl)) ?_)
 intro w18_ S20_ H19_
 have S21_ := Same.trans S17_ S20_
 refine wn (hK12_ _ _ ?_)
 refine cr fun _ hK22_ => ?_
 refine sm (vI .i64 ord) ?_
 refine sv (v := (vP (some ⟨b2_, 1, none⟩))) (by kernel_rfl) ?_
 refine sv (v := (vA #[(Value.string o.in__In_Begin), (Value.string o.in__In_End), (vB o.in__In_Point), (vI .i64 o.in__From), (vI .i64 o.in__Till)])) (x_loadN (vs := [(Value.string o.in__In_Begin), (Value.string o.in__In_End), (vB o.in__In_Point), (vI .i64 o.in__From), (vI .i64 o.in__Till)]) rfl underlying44 rfl z44 rfl (Rd.cells (Holds.rd H19_ 2 rfl) 1 rfl)) ?_
 have H32_ := ((Holds.bring H19_ 3 rfl) :)
 refine S_list (T_callG (al := [(vI .i64 ord), (vA #[(Value.string o.sn.in__Begin), (Value.string o.sn.in__End), (vB o.sn.in__Point), (vI .i64 o.sn.from_), (vI .i64 o.sn.till)])]) (pre := []) rfl (lcons rfl (lcons (congrArg (fun l => vA (List.toArray l)) (lcons (congrArg Value.string ((by first | rfl | omega | (simp; done) | (simp; omega)) : o.in__In_Begin = o.sn.in__Begin)) (lcons (congrArg Value.string ((by first | rfl | omega | (simp; done) | (simp; omega)) : o.in__In_End = o.sn.in__End)) (lcons (congrArg vB ((by first | rfl | omega | (simp; done) | (simp; omega)) : o.in__In_Point = o.sn.in__Point)) (lcons (congrArg (vI .i64) ((by first | rfl | omega | (simp; done) | (simp; omega)) : o.in__From = o.sn.from_)) (lcons (congrArg (vI .i64) ((by first | rfl | omega | (simp; done) | (simp; omega)) : o.in__Till = o.sn.till)) rfl)))))) rfl)) cb85 (spIn R ord o.sn (hok)) H32_ ?_)
 rintro R24_ v25_ p36_ w33_ hs23_ ⟨t126_, t227_, x128_, x229_, rfl, rfl, he30_, he31_⟩ S35_ H34_
 have S37_ := Same.trans S21_ S35_
 refine S_list (T_alloc z111 H34_ ?_)
 intro b38_ w39_ S41_ H40_
 have S42_ := Same.trans S37_ S41_
 refine S_list0 (T_storeN (vs := [((Value.iface t126_ x128_)), ((Value.iface t227_ x229_))]) rfl rfl z111 rfl (by simp [Value.oneCell']) H40_ 0 rfl (Nat.le_of_ble_eq_true (by rfl)) ?_)
 intro w43_ S45_ H44_
 have S46_ := Same.trans S42_ S45_
 refine wn (hK22_ _ _ ?_)
 refine cr fun _ hK47_ => ?_
 refine sv (v := (Value.func (.func 86) #[] #[(vQ b13_)])) (by kernel_rfl) ?_
 refine S_list (T_alloc z190 H44_ ?_)
 intro b48_ w49_ S51_ H50_
 have S52_ := Same.trans S46_ S51_
 refine S_list0 (T_store1 (v := (Value.func (.func 86) #[] #[(vQ b13_)])) rfl rfl z190 rfl H50_ 0 rfl (Nat.le_of_ble_eq_true (by rfl)) ?_)
 intro w53_ S55_ H54_
 have S56_ := Same.trans S52_ S55_
 refine wn (hK47_ _ _ ?_)
 refine C_seq (fun _ hK57_ => ?_)
 refine cr fun _ hK58_ => ?_
 refine sv (v := (vQ b2_)) (by kernel_rfl) ?_
 refine sv (v := (vI .i64 o.kind)) (x_load1 rfl underlying3 rfl ((Holds.rd H54_ 5 rfl) 0 (vI .i64 o.kind) rfl)) ?_
 refine wn (hK58_ _ _ ?_)
 refine C_block ?_
 refine cr fun _ hK59_ => ?_
 refine sv (v := (vB (decide (o.kind = 1)))) (x_bin rfl rfl rfl) ?_
 refine sv (v := (vB (decide (o.kind = 1)))) (x_assign rfl) ?_
 refine wn (hK59_ _ _ ?_)
 refine C_cond (b := decide (o.kind = 1)) rfl (fun c60_t => ?_) (fun c60_f => ?_)
 ·have c60_tp : o.kind = 1 := of_decide_eq_true c60_t
  omega
 ·have c60_fp : ¬ (o.kind = 1) := of_decide_eq_false c60_f
  refine cr fun _ hK61_ => ?_
  refine sv (v := (vB (decide (o.kind = 2)))) (x_bin rfl rfl rfl) ?_
  refine sv (v := (vB (decide (o.kind = 2)))) (x_assign rfl) ?_
  refine wn (hK61_ _ _ ?_)
  refine C_cond (b := decide (o.kind = 2)) rfl (fun c62_t => ?_) (fun c62_f => ?_)
  ·have c62_tp : o.kind = 2 := of_decide_eq_true c62_t
   omega
  ·have c62_fp : ¬ (o.kind = 2) := of_decide_eq_false c62_f
   refine cr fun _ hK63_ => ?_
   refine sv (v := (vB (decide (o.kind = 3)))) (x_bin rfl rfl rfl) ?_
   refine sv (v := (vB (decide (o.kind = 3)))) (x_assign rfl) ?_
   refine wn (hK63_ _ _ ?_)
   refine C_cond (b := decide (o.kind = 3)) rfl (fun c64_t => ?_) (fun c64_f => ?_)
   ·have c64_tp : o.kind = 3 := of_decide_eq_true c64_t
    refine cr fun _ hK65_ => ?_
    refine sm (Value.iface 186 (vQ tb)) ?_
    refine sv (v := (vA #[((Value.iface t126_ x128_)), ((Value.iface t227_ x229_))])) (x_loadN (vs := [((Value.iface t126_ x128_)), ((Value.iface t227_ x229_))]) rfl underlying111 rfl z111 rfl (Rd.cells (Holds.rd H54_ 1 rfl) 0 rfl)) ?_
    have H74_ := ((Holds.bring (Holds.bring (Holds.bring (Holds.bring H54_ 8 rfl) 8 rfl) 8 rfl) 5 rfl) :)
    refine S_list (T_invoke (al := [(vQ tb), (vA #[((Value.iface t126_ x128_)), ((Value.iface t227_ x229_))])]) (pre := [cl tb 188 [(vQ (rt sb W)), (vI .i64 (List.length M : Int)), (vQ sb)], tr sb sb W, clf sb 185 sc]) rfl (fun w => by kernel_rfl) rfl cb145 (itFind R24_ EK (EO ord) tb sb (List.length M : Int) sc W t126_ t227_ x128_ x229_ (o.sn.lo ord) (o.sn.hi ord) (((hM.mono hs23_)).ok.1) (hM.s) (he30_) (he31_)) H74_ ?_)
    rintro v66_ p78_ w75_ hq79_ S77_ H76_
    rcases hq79_ with ⟨rfl, rfl, he67_⟩ | ⟨C68_, n69_, a70_, b71_, rfl, rfl, he72_, he73_⟩
    ·skip
     have S80_ := Same.trans S56_ S77_
     have hX_ : (findX ord M (o.sn.lo ord) (o.sn.hi ord)) = ⟨false, 0, [], []⟩ := findX_miss (hM.miss he67_)
     refine sv (v := (vP none)) (x_assign rfl) ?_
     refine wn (hK65_ _ _ ?_)
     refine cr fun _ hK85_ => ?_
     refine sm (vP none) ?_
     refine sv (v := (vB false)) (by kernel_rfl) ?_
     refine wn (hK85_ _ _ ?_)
     refine C_condF rfl ?_
     refine C_skip (X_blkN (X_then (hK57_ _ _ ?_)))
     refine cr fun _ hK86_ => ?_
     refine sv (v := (vA #[(vB false), (vI .i64 0), (vI .i64 0), (vS none 0 0), (vS none 0 0)])) (x_loadN (vs := [(vB false), (vI .i64 0), (vI .i64 0), (vS none 0 0), (vS none 0 0)]) rfl underlying59 rfl z59 rfl (Rd.cells (Holds.rd H76_ 6 rfl) 0 rfl)) ?_
     refine S_list0 (T_storeN (vs := [(vB false), (vI .i64 0), (vI .i64 0), (vS none 0 0), (vS none 0 0)]) rfl rfl z59 rfl (by simp [Value.oneCell']) H76_ 7 rfl (Nat.le_of_ble_eq_true (by rfl)) ?_)
     intro w87_ S89_ H88_
     have S90_ := Same.trans S80_ S89_
     refine wn (hK86_ _ _ ?_)
     refine C_ret ?_
     refine R_any (v := (vA #[(vB false), (vI .i64 0), (vI .i64 0), (vS none 0 0), (vS none 0 0)])) (run_results1 rfl ⟨_, rfl, load_resN underlying59 rfl z59 rfl (vs := [(vB false), (vI .i64 0), (vI .i64 0), (vS none 0 0), (vS none 0 0)]) (Holds.cl_cells H88_ 7 rfl 0 rfl)⟩) ?_
     have H91_ := Holds.pkF H88_ [0, 0, 0, 0] 5
     exact ⟨R24_, _, _, rfl, hs23_, ⟨(⟨false, 0, 0, (vS none 0 0), (vS none 0 0)⟩ : TA), W, (congrArg (fun l => vA (List.toArray l)) (lcons (congrArg vB ((by first | rfl | omega | (simp; done) | (simp; omega)) : false = ((⟨false, 0, 0, (vS none 0 0), (vS none 0 0)⟩ : TA).oK))) (lcons (congrArg (vI .i64) ((by first | rfl | omega | (simp; done) | (simp; omega)) : 0 = (⟨false, 0, 0, (vS none 0 0), (vS none 0 0)⟩ : TA).n)) (lcons (congrArg (vI .i64) ((by first | rfl | omega | (simp; done) | (simp; omega)) : 0 = (⟨false, 0, 0, (vS none 0 0), (vS none 0 0)⟩ : TA).most)) (lcons ((by first | rfl | omega | (simp; done) | (simp; omega)) : (vS none 0 0) = ((⟨false, 0, 0, (vS none 0 0), (vS none 0 0)⟩ : TA).list)) (lcons ((by first | rfl | omega | (simp; done) | (simp; omega)) : (vS none 0 0) = ((⟨false, 0, 0, (vS none 0 0), (vS none 0 0)⟩ : TA).vals)) rfl)))))), rfl, ((hM.mono hs23_)), (by rw [hX_]; exact ⟨rfl, rfl, RS.nil _ _, RS.nil _ _⟩)⟩, S90_, H91_⟩
    ·skip
     have S81_ := Same.trans S56_ S77_
     obtain ⟨e82_, e82_m, e82_1, e82_2, e82_3⟩ : ∃ e ∈ M, e.lo = n69_.kb ∧ e.hi = n69_.ke ∧ n69_.v = .iface 3 (.int .i64 e.val) := TS.hit (C := C68_) (a := a70_) (b := b71_) (by rw [he72_]; exact hM)
     have hX_ : (findX ord M (o.sn.lo ord) (o.sn.hi ord)) = ⟨true, 0, [spanOf e82_], [e82_.val]⟩ := findX_hit hun e82_m (e82_1.trans he73_.1) (e82_2.trans he73_.2)
     have hTk_ : NOk (EO ord) R n69_ ∧ TOk (EO ord) R a70_ ∧ TOk (EO ord) R b71_ := tk_unplug (C := C68_) (t := .nd n69_ a70_ b71_) (by rw [he72_]; exact hM.ok.1)
     have H83_ : Holds w75_ (ro R24_ :: cl tb 188 [(vQ (rt sb W)), (vI .i64 (List.length M : Int)), (vQ sb)] :: clf n69_.a 185 [n69_.b, n69_.e, n69_.v, n69_.mx, (vQ (rt sb a70_)), (vQ (rt sb b71_)), (vQ (pa sb C68_)), (vI .i64 n69_.c)] :: tr sb n69_.a a70_ :: tr sb n69_.a b71_ :: cx sb n69_.a C68_ :: clf sb 185 sc :: cl b48_ 190 [(Value.func (.func 86) #[] #[(vQ b13_)])] :: cl b38_ 111 [((Value.iface t126_ x128_)), ((Value.iface t227_ x229_))] :: cl b13_ 59 [(vB false), (vI .i64 0), (vI .i64 0), (vS none 0 0), (vS none 0 0)] :: cl b7_ 59 [(vB false), (vI .i64 0), (vI .i64 0), (vS none 0 0), (vS none 0 0)] :: cl b2_ 63 [(vI .i64 o.kind), (Value.string o.in__In_Begin), (Value.string o.in__In_End), (vB o.in__In_Point), (vI .i64 o.in__From), (vI .i64 o.in__Till), (vI .i64 o.val), (vI .i64 o.n), o.other, o.vals] :: F) := (H76_)
     have H84_ := H83_; rw [e82_3] at H84_
     refine sv (v := (vQ n69_.a)) (x_assign rfl) ?_
     refine wn (hK65_ _ _ ?_)
     refine cr fun _ hK92_ => ?_
     refine sm (vQ n69_.a) ?_
     refine sv (v := (vB true)) (by kernel_rfl) ?_
     refine wn (hK92_ _ _ ?_)
     refine C_condT rfl ?_
     refine cr fun _ hK93_ => ?_
     refine sv (v := (vQ b13_)) (by kernel_rfl) ?_
     refine S_list0 (T_store1 (v := (vB true)) rfl rfl z4 rfl H84_ 9 rfl (Nat.le_of_ble_eq_true (by rfl)) ?_)
     intro w94_ S96_ H95_
     have S97_ := Same.trans S81_ S96_
     refine wn (hK93_ _ _ ?_)
     refine C_reg ?_
     refine sv (v := (Value.func (.func 86) #[] #[(vQ b13_)])) (x_load1 rfl underlying190 rfl ((Holds.rd H95_ 7 rfl) 0 (Value.func (.func 86) #[] #[(vQ b13_)]) rfl)) ?_
     refine sm (vQ n69_.a) ?_
     have H98_ : Holds w94_ (sl 44 5 (vS none 0 0) (List.length ([] : List SN)) (([] : List SN).flatMap SN.cells) :: ro R24_ :: cl tb 188 [(vQ (rt sb W)), (vI .i64 (List.length M : Int)), (vQ sb)] :: clf n69_.a 185 [n69_.b, n69_.e, (Value.iface 3 (vI .i64 e82_.val)), n69_.mx, (vQ (rt sb a70_)), (vQ (rt sb b71_)), (vQ (pa sb C68_)), (vI .i64 n69_.c)] :: tr sb n69_.a a70_ :: tr sb n69_.a b71_ :: cx sb n69_.a C68_ :: clf sb 185 sc :: cl b48_ 190 [(Value.func (.func 86) #[] #[(vQ b13_)])] :: cl b38_ 111 [((Value.iface t126_ x128_)), ((Value.iface t227_ x229_))] :: cl b13_ 59 [(vB true), (vI .i64 0), (vI .i64 0), (vS none 0 0), (vS none 0 0)] :: cl b7_ 59 [(vB false), (vI .i64 0), (vI .i64 0), (vS none 0 0), (vS none 0 0)] :: cl b2_ 63 [(vI .i64 o.kind), (Value.string o.in__In_Begin), (Value.string o.in__In_End), (vB o.in__In_Point), (vI .i64 o.in__From), (vI .i64 o.in__Till), (vI .i64 o.val), (vI .i64 o.n), o.other, o.vals] :: F) := Holds.add_nil H95_ 44 5
     have H99_ : Holds w94_ (sl 3 1 (vS none 0 0) (List.length ([] : List Int)) (([] : List Int).map (vI .i64)) :: sl 44 5 (vS none 0 0) (List.length ([] : List SN)) (([] : List SN).flatMap SN.cells) :: ro R24_ :: cl tb 188 [(vQ (rt sb W)), (vI .i64 (List.length M : Int)), (vQ sb)] :: clf n69_.a 185 [n69_.b, n69_.e, (Value.iface 3 (vI .i64 e82_.val)), n69_.mx, (vQ (rt sb a70_)), (vQ (rt sb b71_)), (vQ (pa sb C68_)), (vI .i64 n69_.c)] :: tr sb n69_.a a70_ :: tr sb n69_.a b71_ :: cx sb n69_.a C68_ :: clf sb 185 sc :: cl b48_ 190 [(Value.func (.func 86) #[] #[(vQ b13_)])] :: cl b38_ 111 [((Value.iface t126_ x128_)), ((Value.iface t227_ x229_))] :: cl b13_ 59 [(vB true), (vI .i64 0), (vI .i64 0), (vS none 0 0), (vS none 0 0)] :: cl b7_ 59 [(vB false), (vI .i64 0), (vI .i64 0), (vS none 0 0), (vS none 0 0)] :: cl b2_ 63 [(vI .i64 o.kind), (Value.string o.in__In_Begin), (Value.string o.in__In_End), (vB o.in__In_Point), (vI .i64 o.in__From), (vI .i64 o.in__Till), (vI .i64 o.val), (vI .i64 o.n), o.other, o.vals] :: F) := Holds.add_nil H98_ 3 1
     have H100_ := Holds.recl H99_ 11 rfl ((lcons rfl (lcons rfl (lcons rfl (lcons (rfl : (vS none 0 0) = ((vS none 0 0))) (lcons (rfl : (vS none 0 0) = ((vS none 0 0))) rfl))))) : [(vB true), (vI .i64 0), (vI .i64 0), (vS none 0 0), (vS none 0 0)] = [(vB true), (vI .i64 0), (vI .i64 0), ((vS none 0 0)), ((vS none 0 0))])
     have H104_ := ((Holds.bring (Holds.bring (Holds.bring (Holds.bring H100_ 1 rfl) 11 rfl) 5 rfl) 4 rfl) :)
     refine S_list (T_call (al := [(vQ n69_.a), (vQ b13_)]) (pre := [clf n69_.a 185 [n69_.b, n69_.e, (Value.iface 3 (vI .i64 e82_.val)), n69_.mx, (vQ (rt sb a70_)), (vQ (rt sb b71_)), (vQ (pa sb C68_)), (vI .i64 n69_.c)], cl b13_ 59 [(vB true), (vI .i64 0), (vI .i64 0), ((vS none 0 0)), ((vS none 0 0))], sl 44 5 (vS none 0 0) (List.length ([] : List SN)) (([] : List SN).flatMap SN.cells), sl 3 1 (vS none 0 0) (List.length ([] : List Int)) (([] : List Int).map (vI .i64))]) rfl rfl cb86 (tdNote R24_ ord b13_ n69_ (rt sb a70_) (rt sb b71_) (pa sb C68_) true 0 0 e82_.val (vS none 0 0) (vS none 0 0) ([] : List SN) ([] : List Int) ((hTk_.1.mono hs23_)) (by constructor <;> simp)) H104_ ?_)
     rintro v101_ p108_ w105_ ⟨lv2102_, vv2103_, rfl, rfl⟩ S107_ H106_
     have S109_ := Same.trans S97_ S107_
     refine wpList_nil (X_blkN (X_then (hK57_ _ _ ?_)))
     refine cr fun _ hK110_ => ?_
     refine sv (v := (vA #[(vB true), (vI .i64 0), (vI .i64 0), lv2102_, vv2103_])) (x_loadN (vs := [(vB true), (vI .i64 0), (vI .i64 0), lv2102_, vv2103_]) rfl underlying59 rfl z59 rfl (Rd.cells (Holds.rd H106_ 2 rfl) 0 rfl)) ?_
     refine S_list0 (T_storeN (vs := [(vB true), (vI .i64 0), (vI .i64 0), lv2102_, vv2103_]) rfl rfl z59 rfl (List.forall_mem_cons.2 ⟨rfl, (List.forall_mem_cons.2 ⟨rfl, (List.forall_mem_cons.2 ⟨rfl, (List.forall_mem_cons.2 ⟨(Holds.sl_one H106_ 3 rfl), (List.forall_mem_cons.2 ⟨(Holds.sl_one H106_ 4 rfl), (fun _ h__ => by cases h__)⟩)⟩)⟩)⟩)⟩) H106_ 12 rfl (Nat.le_of_ble_eq_true (by rfl)) ?_)
     intro w111_ S113_ H112_
     have S114_ := Same.trans S109_ S113_
     refine wn (hK110_ _ _ ?_)
     refine C_ret ?_
     refine R_any (v := (vA #[(vB true), (vI .i64 0), (vI .i64 0), lv2102_, vv2103_])) (run_results1 rfl ⟨_, rfl, load_resN underlying59 rfl z59 rfl (vs := [(vB true), (vI .i64 0), (vI .i64 0), lv2102_, vv2103_]) (Holds.cl_cells H112_ 12 rfl 0 rfl)⟩) ?_
     have H115_ : Holds w111_ (ro R24_ :: clf n69_.a 185 [n69_.b, n69_.e, (Value.iface 3 (vI .i64 e82_.val)), n69_.mx, (vQ (rt sb a70_)), (vQ (rt sb b71_)), (vQ (pa sb C68_)), (vI .i64 n69_.c)] :: cl b13_ 59 [(vB true), (vI .i64 0), (vI .i64 0), lv2102_, vv2103_] :: sl 44 5 lv2102_ (List.length (([] : List SN) ++ [ekSpan n69_.kb n69_.ke])) ((([] : List SN) ++ [ekSpan n69_.kb n69_.ke]).flatMap SN.cells) :: sl 3 1 vv2103_ (List.length (([] : List Int) ++ [e82_.val])) ((([] : List Int) ++ [e82_.val]).map (vI .i64)) :: cl tb 188 [(vQ (rt sb W)), (vI .i64 (List.length M : Int)), (vQ sb)] :: tr sb n69_.a a70_ :: tr sb n69_.a b71_ :: cx sb n69_.a C68_ :: clf sb 185 sc :: cl b48_ 190 [(Value.func (.func 86) #[] #[(vQ b13_)])] :: cl b38_ 111 [((Value.iface t126_ x128_)), ((Value.iface t227_ x229_))] :: cl b7_ 59 [(vB true), (vI .i64 0), (vI .i64 0), lv2102_, vv2103_] :: cl b2_ 63 [(vI .i64 o.kind), (Value.string o.in__In_Begin), (Value.string o.in__In_End), (vB o.in__In_Point), (vI .i64 o.in__From), (vI .i64 o.in__Till), (vI .i64 o.val), (vI .i64 o.n), o.other, o.vals] :: F) := (H112_)
     have H116_ := H115_; rw [← e82_3] at H116_
     have H117_ := ((Holds.bring (Holds.bring (Holds.bring H116_ 7 rfl) 7 rfl) 3 rfl) :)
     have H118_ := Holds.nd_tr (n := n69_) (a := a70_) (b := b71_) H117_
     have H119_ := H118_
     have H120_ := ((Holds.bring (Holds.bring H119_ 6 rfl) 1 rfl) :)
     have H121_ := Holds.plug_in (C := C68_) (t := (Tr.nd n69_ a70_ b71_)) H120_
     have H122_ := H121_; rw [he72_] at H122_
     have H123_ := H122_
     have H124_ := Holds.resl H123_ 3 rfl (by unfold spanOf; rw [e82_1, e82_2]; rfl : (([] : List SN) ++ [ekSpan n69_.kb n69_.ke]).flatMap SN.cells = [spanOf e82_].flatMap SN.cells) (rfl : (List.length (([] : List SN) ++ [ekSpan n69_.kb n69_.ke])) = (List.length [spanOf e82_]))
     have H125_ := Holds.resl H124_ 4 rfl (rfl : (([] : List Int) ++ [e82_.val]).map (vI .i64) = [e82_.val].map (vI .i64)) (rfl : (List.length (([] : List Int) ++ [e82_.val])) = (List.length [e82_.val]))
     have H126_ := ((Holds.bring (Holds.bring H125_ 3 rfl) 2 rfl) :)
     obtain ⟨R127_, hs128_, ⟨R129_, ha130_, hs131_⟩, H132_⟩ := Holds.gift H126_
     have hz_R_R127_ := Sub.trans' hs23_ hs128_
     have hr133_ : RS R127_ 5 lv2102_ (List.length [spanOf e82_]) ([spanOf e82_].flatMap SN.cells) := (sl_RS ha130_ (Sub.rfl' _)).mono hs131_
     have H134_ := ((Holds.bring (Holds.bring H132_ 3 rfl) 1 rfl) :)
     obtain ⟨R135_, hs136_, ⟨R137_, ha138_, hs139_⟩, H140_⟩ := Holds.gift H134_
     have hz_R_R135_ := Sub.trans' hz_R_R127_ hs136_
     have hz_R24__R135_ := Sub.trans' hs128_ hs136_
     have hr141_ : RS R135_ 1 vv2103_ (List.length [e82_.val]) ([e82_.val].map (vI .i64)) := (sl_RS ha138_ (Sub.rfl' _)).mono hs139_
     have H142_ := Holds.pkF H140_ [0, 2, 0, 1] 5
     exact ⟨R135_, _, _, rfl, hz_R_R135_, ⟨(⟨true, 0, 0, lv2102_, vv2103_⟩ : TA), W, (congrArg (fun l => vA (List.toArray l)) (lcons (congrArg vB ((by first | rfl | omega | (simp; done) | (simp; omega)) : true = ((⟨true, 0, 0, lv2102_, vv2103_⟩ : TA).oK))) (lcons (congrArg (vI .i64) ((by first | rfl | omega | (simp; done) | (simp; omega)) : 0 = (⟨true, 0, 0, lv2102_, vv2103_⟩ : TA).n)) (lcons (congrArg (vI .i64) ((by first | rfl | omega | (simp; done) | (simp; omega)) : 0 = (⟨true, 0, 0, lv2102_, vv2103_⟩ : TA).most)) (lcons ((by first | rfl | omega | (simp; done) | (simp; omega)) : lv2102_ = ((⟨true, 0, 0, lv2102_, vv2103_⟩ : TA).list)) (lcons ((by first | rfl | omega | (simp; done) | (simp; omega)) : vv2103_ = ((⟨true, 0, 0, lv2102_, vv2103_⟩ : TA).vals)) rfl)))))), rfl, ((hM.mono hz_R_R135_)), (by rw [hX_]; exact ⟨rfl, rfl, (RS.mono hr133_ hs136_), hr141_⟩)⟩, S114_, H142_⟩
   ·have c64_fp : ¬ (o.kind = 3) := of_decide_eq_false c64_f
    omega
end Go.Proofs.Ytlnihndjepjagaa
set_option linter.unusedVariables false
set_option linter.unusedSimpArgs false
namespace Go.Proofs.Ytlnihndjepjagaa
open Go Go.RowKit Gw Try
open Go.Value renaming int → vI, bool → vB, slice → vS, pointer → vP, agg → vA, tuple → vT

def ieL (ord : Int) (OL : List SN) (OV : List Int) : List IE := (OL.zip OV).map fun p => ⟨p.1.lo ord, p.1.hi ord, p.2⟩
theorem ieL_len {ord : Int} {OL : List SN} {OV : List Int} (h : OL.length = OV.length) : (ieL ord OL OV).length = OL.length := by unfold ieL; rw [List.length_map, List.length_zip, h]; simp
theorem ieL_at {ord : Int} {OL : List SN} {OV : List Int} {k : Nat} {s : SN} {v : Int} (h1 : OL[k]? = some s) (h2 : OV[k]? = some v) : (ieL ord OL OV)[k]? = some ⟨s.lo ord, s.hi ord, v⟩ := by
  unfold ieL
  rw [List.getElem?_map, (List.getElem?_zip_eq_some (z := (s, v))).2 ⟨h1, h2⟩]
  rfl
theorem take_snoc {α : Type} {l : List α} {k : Nat} {x : α} (h : l[k]? = some x) : l.take (k + 1) = l.take k ++ [x] := by rw [List.take_add_one, h]; rfl
theorem insAll_snoc {ord : Int} {M N : List IE} {k : Nat} {e : IE} (h : N[k]? = some e) : insAll ord M (N.take (k + 1)) = insK ord e (insAll ord M (N.take k)) := by
  rw [take_snoc h]
  unfold insAll
  rw [List.foldl_append]; rfl
theorem insK_mem {ord : Int} {z e : IE} : ∀ {M : List IE}, e ∈ insK ord z M ↔ e = z ∨ e ∈ M
  | [] => by simp [insK]
  | x :: M => by
    rw [insK]
    split
    · simp
    · rw [List.mem_cons, insK_mem, List.mem_cons]
      constructor
      · rintro (h | h | h)
        · exact .inr (.inl h)
        · exact .inl h
        · exact .inr (.inr h)
      · rintro (h | h | h)
        · exact .inr (.inl h)
        · exact .inl h
        · exact .inr (.inr h)
theorem insAll_mem {ord : Int} {e : IE} : ∀ {N M : List IE}, e ∈ insAll ord M N ↔ e ∈ N ∨ e ∈ M
  | [], M => by simp [insAll]
  | x :: N, M => by
    show e ∈ insAll ord (insK ord x M) N ↔ _
    rw [insAll_mem, insK_mem, List.mem_cons]
    constructor
    · rintro (h | h | h)
      · exact .inl (.inr h)
      · exact .inl (.inl h)
      · exact .inr h
    · rintro ((h | h) | h)
      · exact .inr (.inl h)
      · exact .inl h
      · exact .inr (.inr h)
theorem ieL_prp {ord : Int} {OL : List SN} {OV : List Int} (h : ∀ s ∈ OL, ecm ord (s.lo ord) (s.hi ord) < 0) : PrpK ord (ieL ord OL OV) := fun e he => by
  unfold ieL at he
  obtain ⟨p, hp, rfl⟩ := List.mem_map.1 he
  exact h p.1 (List.of_mem_zip hp).1

set_option maxHeartbeats 16000000 in
theorem tdoUni (R : HP) (ord : Int) (tb s0 : Nat) (sc : List Value) (W : Tr EK) (M : List IE) (o : TO) (OL : List SN) (OV : List Int) (hM : TS ord R W M) (hok : SnOk ord o.sn) (hml : M.length ≤ 10000000) (ho : RS R 5 o.other (List.length OL) (OL.flatMap SN.cells)) (hv : RS R 1 o.vals (List.length OV) (OV.map (vI .i64))) (hlen : OL.length = OV.length ∧ OL.length ≤ 1000) (hos : ∀ s ∈ OL, SnOk ord s) (hpo : ∀ s ∈ OL, ecm ord (s.lo ord) (s.hi ord) < 0) (hq : ecm ord (o.sn.lo ord) (o.sn.hi ord) < 0) (hk : o.kind = 10) :
    TriG Try.prog 63 #[(Value.iface 186 (vQ tb)), (vI .i64 ord), (vA #[(vI .i64 o.kind), (Value.string o.in__In_Begin), (Value.string o.in__In_End), (vB o.in__In_Point), (vI .i64 o.in__From), (vI .i64 o.in__Till), (vI .i64 o.val), (vI .i64 o.n), o.other, o.vals])] R [cl tb 188 [(vQ (rt s0 W)), (vI .i64 (List.length M : Int)), (vQ s0)], tr s0 s0 W, clf s0 185 sc] (fun R' v__ post__ => ∃ (a : TA) (W2 : Tr EK), v__ = (vA #[(vB a.oK), (vI .i64 a.n), (vI .i64 a.most), a.list, a.vals]) ∧ post__ = [cl tb 188 [(vQ (rt s0 W2)), (vI .i64 (List.length (insAll ord M (List.filter (meetK ord (o.sn.lo ord) (o.sn.hi ord)) (insAll ord [] (ieL ord OL OV)))) : Int)), (vQ s0)], tr s0 s0 W2, clf s0 185 sc] ∧ (TS ord R' W2 (insAll ord M (List.filter (meetK ord (o.sn.lo ord) (o.sn.hi ord)) (insAll ord [] (ieL ord OL OV))))) ∧ (AnsAt R' a (⟨false, 0, [], []⟩ : TAx))) := by
 refine TriG.into (n := 133) (al := [(Value.iface 186 (vQ tb)), (vI .i64 ord), (vA #[(vI .i64 o.kind), (Value.string o.in__In_Begin), (Value.string o.in__In_End), (vB o.in__In_Point), (vI .i64 o.in__From), (vI .i64 o.in__Till), (vI .i64 o.val), (vI .i64 o.n), o.other, o.vals])]) func63 rfl ntmps63 rfl rfl fun w F H => ?_
 refine cr fun _ hK1_ => ?_
 refine S_list (T_box (v := (vA #[(vI .i64 o.kind), (Value.string o.in__In_Begin), (Value.string o.in__In_End), (vB o.in__In_Point), (vI .i64 o.in__From), (vI .i64 o.in__Till), (vI .i64 o.val), (vI .i64 o.n), o.other, o.vals])) rfl H ?_)
 intro b2_ w3_ S5_ H4_
 have S6_ := Same.trans (Same.refl w) S5_
 refine S_list (T_alloc z59 H4_ ?_)
 intro b7_ w8_ S10_ H9_
 have S11_ := Same.trans S6_ S10_
 refine wn (hK1_ _ _ ?_)
 refine cr fun _ hK12_ => ?_
 refine sv (v := (vA #[(vB false), (vI .i64 0), (vI .i64 0), (vS none 0 0), (vS none 0 0)])) (by kernel_rfl) ?_
 refine S_list (T_alloc z59 H9_ ?_)
 intro b13_ w14_ S16_ H15_
 have S17_ := Same.trans S11_ S16_
 refine S_list0 (T_storeN (vs := [(vB false), (vI .i64 0), (vI .i64 0), (vS none 0 0), (vS none 0 0)]) rfl rfl z59 rfl (by simp [Value.oneCell']) H15_ 0 rfl (Nat.le_of_ble_eq_true (by rfl)) ?_)
 intro w18_ S20_ H19_
 have S21_ := Same.trans S17_ S20_
 refine wn (hK12_ _ _ ?_)
 refine cr fun _ hK22_ => ?_
 refine sm (vI .i64 ord) ?_
 refine sv (v := (vP (some ⟨b2_, 1, none⟩))) (by kernel_rfl) ?_
 refine sv (v := (vA #[(Value.string o.in__In_Begin), (Value.string o.in__In_End), (vB o.in__In_Point), (vI .i64 o.in__From), (vI .i64 o.in__Till)])) (x_loadN (vs := [(Value.string o.in__In_Begin), (Value.string o.in__In_End), (vB o.in__In_Point), (vI .i64 o.in__From), (vI .i64 o.in__Till)]) rfl underlying44 rfl z44 rfl (Rd.cells (Holds.rd H19_ 2 rfl) 1 rfl)) ?_
 have H32_ := ((Holds.bring H19_ 3 rfl) :)
 refine S_list (T_callG (al := [(vI .i64 ord), (vA #[(Value.string o.sn.in__Begin), (Value.string o.sn.in__End), (vB o.sn.in__Point), (vI .i64 o.sn.from_), (vI .i64 o.sn.till)])]) (pre := []) rfl (lcons rfl (lcons (congrArg (fun l => vA (List.toArray l)) (lcons (congrArg Value.string ((by first | rfl | omega | (simp; done) | (simp; omega)) : o.in__In_Begin = o.sn.in__Begin)) (lcons (congrArg Value.string ((by first | rfl | omega | (simp; done) | (simp; omega)) : o.in__In_End = o.sn.in__End)) (lcons (congrArg vB ((by first | rfl | omega | (simp; done) | (simp; omega)) : o.in__In_Point = o.sn.in__Point)) (lcons (congrArg (vI .i64) ((by first | rfl | omega | (simp; done) | (simp; omega)) : o.in__From = o.sn.from_)) (lcons (congrArg (vI .i64) ((by first | rfl | omega | (simp; done) | (simp; omega)) : o.in__Till = o.sn.till)) rfl)))))) rfl)) cb85 (spIn R ord o.sn (hok)) H32_ ?_)
 rintro R24_ v25_ p36_ w33_ hs23_ ⟨t126_, t227_, x128_, x229_, rfl, rfl, he30_, he31_⟩ S35_ H34_
 have S37_ := Same.trans S21_ S35_
 refine S_list (T_alloc z111 H34_ ?_)
 intro b38_ w39_ S41_ H40_
 have S42_ := Same.trans S37_ S41_
 refine S_list0 (T_storeN (vs := [((Value.iface t126_ x128_)), ((Value.iface t227_ x229_))]) rfl rfl z111 rfl (by simp [Value.oneCell']) H40_ 0 rfl (Nat.le_of_ble_eq_true (by rfl)) ?_)
 intro w43_ S45_ H44_
 have S46_ := Same.trans S42_ S45_
 refine wn (hK22_ _ _ ?_)
 refine cr fun _ hK47_ => ?_
 refine sv (v := (Value.func (.func 86) #[] #[(vQ b13_)])) (by kernel_rfl) ?_
 refine S_list (T_alloc z190 H44_ ?_)
 intro b48_ w49_ S51_ H50_
 have S52_ := Same.trans S46_ S51_
 refine S_list0 (T_store1 (v := (Value.func (.func 86) #[] #[(vQ b13_)])) rfl rfl z190 rfl H50_ 0 rfl (Nat.le_of_ble_eq_true (by rfl)) ?_)
 intro w53_ S55_ H54_
 have S56_ := Same.trans S52_ S55_
 refine wn (hK47_ _ _ ?_)
 refine C_seq (fun _ hK57_ => ?_)
 refine cr fun _ hK58_ => ?_
 refine sv (v := (vQ b2_)) (by kernel_rfl) ?_
 refine sv (v := (vI .i64 o.kind)) (x_load1 rfl underlying3 rfl ((Holds.rd H54_ 5 rfl) 0 (vI .i64 o.kind) rfl)) ?_
 refine wn (hK58_ _ _ ?_)
 refine C_block ?_
 refine cr fun _ hK59_ => ?_
 refine sv (v := (vB (decide (o.kind = 1)))) (x_bin rfl rfl rfl) ?_
 refine sv (v := (vB (decide (o.kind = 1)))) (x_assign rfl) ?_
 refine wn (hK59_ _ _ ?_)
 refine C_cond (b := decide (o.kind = 1)) rfl (fun c60_t => ?_) (fun c60_f => ?_)
 ·have c60_tp : o.kind = 1 := of_decide_eq_true c60_t
  omega
 ·have c60_fp : ¬ (o.kind = 1) := of_decide_eq_false c60_f
  refine cr fun _ hK61_ => ?_
  refine sv (v := (vB (decide (o.kind = 2)))) (x_bin rfl rfl rfl) ?_
  refine sv (v := (vB (decide (o.kind = 2)))) (x_assign rfl) ?_
  refine wn (hK61_ _ _ ?_)
  refine C_cond (b := decide (o.kind = 2)) rfl (fun c62_t => ?_) (fun c62_f => ?_)
  ·have c62_tp : o.kind = 2 := of_decide_eq_true c62_t
   omega
  ·have c62_fp : ¬ (o.kind = 2) := of_decide_eq_false c62_f
   refine cr fun _ hK63_ => ?_
   refine sv (v := (vB (decide (o.kind = 3)))) (x_bin rfl rfl rfl) ?_
   refine sv (v := (vB (decide (o.kind = 3)))) (x_assign rfl) ?_
   refine wn (hK63_ _ _ ?_)
   refine C_cond (b := decide (o.kind = 3)) rfl (fun c64_t => ?_) (fun c64_f => ?_)
   ·have c64_tp : o.kind = 3 := of_decide_eq_true c64_t
    omega
   ·have c64_fp : ¬ (o.kind = 3) := of_decide_eq_false c64_f
    refine cr fun _ hK65_ => ?_
    refine sv (v := (vB (decide (o.kind = 4)))) (x_bin rfl rfl rfl) ?_
    refine sv (v := (vB (decide (o.kind = 4)))) (x_assign rfl) ?_
    refine wn (hK65_ _ _ ?_)
    refine C_cond (b := decide (o.kind = 4)) rfl (fun c66_t => ?_) (fun c66_f => ?_)
    ·have c66_tp : o.kind = 4 := of_decide_eq_true c66_t
     omega
    ·have c66_fp : ¬ (o.kind = 4) := of_decide_eq_false c66_f
     refine cr fun _ hK67_ => ?_
     refine sv (v := (vB (decide (o.kind = 5)))) (x_bin rfl rfl rfl) ?_
     refine sv (v := (vB (decide (o.kind = 5)))) (x_assign rfl) ?_
     refine wn (hK67_ _ _ ?_)
     refine C_cond (b := decide (o.kind = 5)) rfl (fun c68_t => ?_) (fun c68_f => ?_)
     ·have c68_tp : o.kind = 5 := of_decide_eq_true c68_t
      omega
     ·have c68_fp : ¬ (o.kind = 5) := of_decide_eq_false c68_f
      refine cr fun _ hK69_ => ?_
      refine sv (v := (vB (decide (o.kind = 6)))) (x_bin rfl rfl rfl) ?_
      refine sv (v := (vB (decide (o.kind = 6)))) (x_assign rfl) ?_
      refine wn (hK69_ _ _ ?_)
      refine C_cond (b := decide (o.kind = 6)) rfl (fun c70_t => ?_) (fun c70_f => ?_)
      ·have c70_tp : o.kind = 6 := of_decide_eq_true c70_t
       omega
      ·have c70_fp : ¬ (o.kind = 6) := of_decide_eq_false c70_f
       refine cr fun _ hK71_ => ?_
       refine sv (v := (vB (decide (o.kind = 7)))) (x_bin rfl rfl rfl) ?_
       refine sv (v := (vB (decide (o.kind = 7)))) (x_assign rfl) ?_
       refine wn (hK71_ _ _ ?_)
       refine C_cond (b := decide (o.kind = 7)) rfl (fun c72_t => ?_) (fun c72_f => ?_)
       ·have c72_tp : o.kind = 7 := of_decide_eq_true c72_t
        omega
       ·have c72_fp : ¬ (o.kind = 7) := of_decide_eq_false c72_f
        refine cr fun _ hK73_ => ?_
        refine sv (v := (vB (decide (o.kind = 8)))) (x_bin rfl rfl rfl) ?_
        refine sv (v := (vB (decide (o.kind = 8)))) (x_assign rfl) ?_
        refine wn (hK73_ _ _ ?_)
        refine C_cond (b := decide (o.kind = 8)) rfl (fun c74_t => ?_) (fun c74_f => ?_)
        ·have c74_tp : o.kind = 8 := of_decide_eq_true c74_t
         omega
        ·have c74_fp : ¬ (o.kind = 8) := of_decide_eq_false c74_f
         refine cr fun _ hK75_ => ?_
         refine sv (v := (vB (decide (o.kind = 9)))) (x_bin rfl rfl rfl) ?_
         refine sv (v := (vB (decide (o.kind = 9)))) (x_assign rfl) ?_
         refine wn (hK75_ _ _ ?_)
         refine C_cond (b := decide (o.kind = 9)) rfl (fun c76_t => ?_) (fun c76_f => ?_)
         ·have c76_tp : o.kind = 9 := of_decide_eq_true c76_t
          omega
         ·have c76_fp : ¬ (o.kind = 9) := of_decide_eq_false c76_f
          refine cr fun _ hK77_ => ?_
          refine sv (v := (vB (decide (o.kind = 10)))) (x_bin rfl rfl rfl) ?_
          refine sv (v := (vB (decide (o.kind = 10)))) (x_assign rfl) ?_
          refine wn (hK77_ _ _ ?_)
          refine C_cond (b := decide (o.kind = 10)) rfl (fun c78_t => ?_) (fun c78_f => ?_)
          ·have c78_tp : o.kind = 10 := of_decide_eq_true c78_t
           refine cr fun _ hK79_ => ?_
           refine S_list (T_callW (al := []) rfl rfl cb62 (Calls.into (n := 10) func62 rfl ntmps62 rfl rfl ?_))
           refine cr fun _ hK80_ => ?_
           refine sv (v := (Value.nilIface)) (x_assign rfl) ?_
           refine wn (hK80_ _ _ ?_)
           refine cr fun _ hK81_ => ?_
           refine sv (v := (vA #[(Value.nilIface), (Value.nilIface), (Value.nilIface)])) (by kernel_rfl) ?_
           refine sv (v := (vA #[(Value.nilIface), (Value.nilIface), (Value.nilIface), (Value.nilIface), (vP none), (vP none), (vP none), (vI .i64 0)])) (by kernel_rfl) ?_
           refine S_list (T_boxf (v := (vA #[(Value.nilIface), (Value.nilIface), (Value.nilIface), (Value.nilIface), (vP none), (vP none), (vP none), (vI .i64 0)])) rfl H54_ ?_)
           intro b82_ w83_ S85_ H84_
           have S86_ := Same.trans S56_ S85_
           refine sv (v := (vQ b82_)) (x_assign rfl) ?_
           refine wn (hK81_ _ _ ?_)
           refine cr fun _ hK87_ => ?_
           refine sm (vQ b82_) ?_
           refine sm (vQ b82_) ?_
           refine sv (v := (vA #[(vQ b82_), (vI .i64 0), (vQ b82_)])) (by kernel_rfl) ?_
           refine S_list (T_box (v := (vA #[(vQ b82_), (vI .i64 0), (vQ b82_)])) rfl H84_ ?_)
           intro b88_ w89_ S91_ H90_
           have S92_ := Same.trans S86_ S91_
           refine sv (v := (Value.iface 186 (vQ b88_))) (by kernel_rfl) ?_
           refine sv (v := (Value.iface 186 (vQ b88_))) (x_assign rfl) ?_
           refine wn (hK87_ _ _ ?_)
           refine C_ret ?_
           refine R_any (v := (Value.iface 186 (vQ b88_))) (run_results1 rfl rfl) ⟨_, rfl, ?_⟩
           refine sv (v := (Value.iface 186 (vQ b88_))) (x_assign rfl) ?_
           refine wn (hK79_ _ _ ?_)
           refine C_seq (fun _ hK93_ => ?_)
           refine cr fun _ hK94_ => ?_
           refine sv (v := (vI .i64 0)) (x_assign rfl) ?_
           refine wn (hK94_ _ _ ?_)
           refine C_block ?_
           have H95_ : Holds w89_ (tr b82_ b82_ (Tr.lf : Tr EK) :: cl b88_ 188 [(vQ b82_), (vI .i64 0), (vQ b82_)] :: clf b82_ 185 [(Value.nilIface), (Value.nilIface), (Value.nilIface), (Value.nilIface), (vP none), (vP none), (vP none), (vI .i64 0)] :: cl b48_ 190 [(Value.func (.func 86) #[] #[(vQ b13_)])] :: cl b38_ 111 [((Value.iface t126_ x128_)), ((Value.iface t227_ x229_))] :: ro R24_ :: cl b13_ 59 [(vB false), (vI .i64 0), (vI .i64 0), (vS none 0 0), (vS none 0 0)] :: cl b7_ 59 [(vB false), (vI .i64 0), (vI .i64 0), (vS none 0 0), (vS none 0 0)] :: cl b2_ 63 [(vI .i64 o.kind), (Value.string o.in__In_Begin), (Value.string o.in__In_End), (vB o.in__In_Point), (vI .i64 o.in__From), (vI .i64 o.in__Till), (vI .i64 o.val), (vI .i64 o.n), o.other, o.vals] :: cl tb 188 [(vQ (rt s0 W)), (vI .i64 (List.length M : Int)), (vQ s0)] :: tr s0 s0 W :: clf s0 185 sc :: F) := Holds.lf_tr H90_
           have H96_ := Holds.recl H95_ 1 rfl ((lcons ((by first | rfl | omega | (simp; done) | (simp; omega)) : (vQ b82_) = (vQ (rt b82_ (Tr.lf : Tr EK)))) (lcons (congrArg (vI .i64) ((by simp [insAll]) : 0 = (List.length (insAll ord [] (List.take 0 (ieL ord OL OV))) : Int))) rfl)) : [(vQ b82_), (vI .i64 0), (vQ b82_)] = [(vQ (rt b82_ (Tr.lf : Tr EK))), (vI .i64 (List.length (insAll ord [] (List.take 0 (ieL ord OL OV))) : Int)), (vQ b82_)])
           refine C_loop (γ := HP × Nat × (Tr EK)) (fun x__ a__ w1__ => match x__ with | ⟨R1, k, U1⟩ => ∃ h : Env, a__ = mkA 133 (upd (upd (upd (upd (upd (upd (upd (upd h 0 (Value.iface 186 (vQ tb))) 1 (vI .i64 ord)) 5 (vQ b2_)) 6 (vQ b7_)) 7 (vQ b13_)) 8 (vQ b38_)) 13 (Value.iface 186 (vQ b88_))) 14 (vI .i64 (k : Int))) [] ∧ Holds w1__ (tr b82_ b82_ U1 :: cl b88_ 188 [(vQ (rt b82_ U1)), (vI .i64 (List.length (insAll ord [] (List.take k (ieL ord OL OV))) : Int)), (vQ b82_)] :: clf b82_ 185 [(Value.nilIface), (Value.nilIface), (Value.nilIface), (Value.nilIface), (vP none), (vP none), (vP none), (vI .i64 0)] :: cl b48_ 190 [(Value.func (.func 86) #[] #[(vQ b13_)])] :: cl b38_ 111 [((Value.iface t126_ x128_)), ((Value.iface t227_ x229_))] :: ro R1 :: cl b13_ 59 [(vB false), (vI .i64 0), (vI .i64 0), (vS none 0 0), (vS none 0 0)] :: cl b7_ 59 [(vB false), (vI .i64 0), (vI .i64 0), (vS none 0 0), (vS none 0 0)] :: cl b2_ 63 [(vI .i64 o.kind), (Value.string o.in__In_Begin), (Value.string o.in__In_End), (vB o.in__In_Point), (vI .i64 o.in__From), (vI .i64 o.in__Till), (vI .i64 o.val), (vI .i64 o.n), o.other, o.vals] :: cl tb 188 [(vQ (rt s0 W)), (vI .i64 (List.length M : Int)), (vQ s0)] :: tr s0 s0 W :: clf s0 185 sc :: F) ∧ Same w w1__ ∧ (Sub R24_ R1) ∧ (k ≤ OL.length) ∧ (TS ord R1 U1 (insAll ord [] (List.take k (ieL ord OL OV))))) (fun x__ => match x__ with | ⟨R1, k, U1⟩ => OL.length - k) (⟨R24_, 0, (Tr.lf : Tr EK)⟩) ⟨_, congrArg (fun e => mkA 133 e []) (ch (ch (ch (ch (ch (ch (ch (ch rfl rfl) rfl) rfl) rfl) rfl) rfl) rfl) (congrArg (vI .i64) ((by first | rfl | omega | (simp; done) | (simp; omega)) : 0 = (0 : Int)))), H96_, S92_, (Sub.rfl' _), (by first | assumption | omega | exact rfl), (by rw [List.take_zero]; exact TS.nil)⟩ ?_
           rintro ⟨R1, k, U1⟩ _ w97_ ⟨h, rfl, H98_, S99_, hsR1, hkk, hU1⟩
           have hz_R_R1 := Sub.trans' hs23_ hsR1
           refine C_seq (fun _ hK100_ => ?_)
           refine cr fun _ hK101_ => ?_
           refine sm (vI .i64 (k : Int)) ?_
           refine sv (v := (vP (some ⟨b2_, 8, none⟩))) (by kernel_rfl) ?_
           refine sv (v := o.other) (x_load1 rfl underlying30 rfl ((Holds.rd H98_ 8 rfl) 8 o.other rfl)) ?_
           refine sv (v := (vI .i64 ((List.length OL) : Int))) (x_lenRS rfl (RS.mono ho hz_R_R1) underlying30) ?_
           refine sv (v := (vB (decide ((k : Int) < ((List.length OL) : Int))))) (x_bin rfl rfl rfl) ?_
           refine wn (hK101_ _ _ ?_)
           refine C_cond (b := decide ((k : Int) < ((List.length OL) : Int))) rfl (fun c102_t => ?_) (fun c102_f => ?_)
           ·have c102_tp : (k : Int) < ((List.length OL) : Int) := of_decide_eq_true c102_t
            refine C_skip (X_then (hK100_ _ _ ?_))
            refine C_seq (fun _ hK103_ => ?_)
            refine C_block ?_
            refine cr fun _ hK104_ => ?_
            refine sv (v := (vI .i64 0)) (x_assign rfl) ?_
            refine wn (hK104_ _ _ ?_)
            refine C_seq (fun _ hK105_ => ?_)
            refine cr fun _ hK106_ => ?_
            refine sm (vI .i64 (k : Int)) ?_
            refine sv (v := (vP (some ⟨b2_, 9, none⟩))) (by kernel_rfl) ?_
            refine sv (v := o.vals) (x_load1 rfl underlying35 rfl ((Holds.rd H98_ 8 rfl) 9 o.vals rfl)) ?_
            refine sv (v := (vI .i64 ((List.length OV) : Int))) (x_lenRS rfl (RS.mono hv hz_R_R1) underlying35) ?_
            refine sv (v := (vB (decide ((k : Int) < ((List.length OV) : Int))))) (x_bin rfl rfl rfl) ?_
            refine wn (hK106_ _ _ ?_)
            refine C_cond (b := decide ((k : Int) < ((List.length OV) : Int))) rfl (fun c107_t => ?_) (fun c107_f => ?_)
            ·have c107_tp : (k : Int) < ((List.length OV) : Int) := of_decide_eq_true c107_t
             refine C_reg ?_
             refine sv (v := (vP (some ⟨b2_, 9, none⟩))) (by kernel_rfl) ?_
             refine sv (v := o.vals) (x_load1 rfl underlying35 rfl ((Holds.rd H98_ 8 rfl) 9 o.vals rfl)) ?_
             refine sm (vI .i64 (k : Int)) ?_
             obtain ⟨x108_, hx109_, hm110_⟩ := elem_at OV k (by omega)
             refine sv (v := (vP (some ⟨(sb o.vals), so o.vals + k, none⟩))) (x_idxRS (v := o.vals) rfl (RS.mono hv hz_R_R1) rfl underlying35 z3 (by omega) (by omega) (by omega : _ = k) (by rw [Nat.mul_one])) ?_
             refine sv (v := (vI .i64 x108_)) (x_load1 rfl underlying3 rfl (RC.cell (RS.rc (RS.mono hv hz_R_R1)) (Holds.ro_at H98_ 5 rfl) (j := k) (u := (vI .i64 x108_)) ((map_at hx109_)))) ?_
             refine sv (v := (vI .i64 x108_)) (x_assign rfl) ?_
             refine wn (hK105_ _ _ ?_)
             refine A_start (S := fun w => Rd b2_ [(vI .i64 o.kind), (Value.string o.in__In_Begin), (Value.string o.in__In_End), (vB o.in__In_Point), (vI .i64 o.in__From), (vI .i64 o.in__Till), (vI .i64 o.val), (vI .i64 o.n), o.other, o.vals] w ∧ RtRd w (rt s0 W) (rmx W) ∧ Sub R1 (hp w)) (N := 14) foll rfl rfl ?_
             have H111_ := Holds.drew_ H98_
             have hq112_ := And.intro (Holds.rd H111_ 8 rfl) (And.intro (Holds.tr_rd H111_ 10 rfl 11 rfl) ((Holds.ro_at H111_ 5 rfl)))
             refine A_tk 0 (v := (Value.iface 186 (vQ b88_))) rfl (by kernel_rfl) (fun w hS => x_move rfl) hq112_ ?_
             refine A_tk 1 (v := (vI .i64 ord)) rfl (by kernel_rfl) (fun w hS => x_move rfl) hq112_ ?_
             refine A_tk 2 (v := (vP (some ⟨b2_, 8, none⟩))) rfl (by kernel_rfl) (fun w hS => by kernel_rfl) hq112_ ?_
             refine A_tk 3 (v := o.other) rfl (by kernel_rfl) (fun w hS => x_load1 rfl underlying30 rfl (hS.1 8 o.other rfl)) hq112_ ?_
             refine A_tk 4 (v := (vI .i64 (k : Int))) rfl (by kernel_rfl) (fun w hS => x_move rfl) hq112_ ?_
             obtain ⟨x113_, hx114_, hm115_⟩ := elem_at OL k (by omega)
             have hp116_ := hos x113_ hm115_
             have hp117_ := hpo x113_ hm115_
             have hso_ := hos x113_ hm115_
             refine A_tk 5 (v := (vP (some ⟨(sb o.other), so o.other + (k * 5 + 0), none⟩))) rfl (by kernel_rfl) (fun w hS => x_idxRS (v := o.other) rfl (RS.mono ho hz_R_R1) rfl underlying30 z44 (by omega) (by omega) (by omega : _ = k) rfl) hq112_ ?_
             refine A_tk 6 (v := (vA #[(Value.string x113_.in__Begin), (Value.string x113_.in__End), (vB x113_.in__Point), (vI .i64 x113_.from_), (vI .i64 x113_.till)])) rfl (by kernel_rfl) (fun w hS => x_loadN (vs := [(Value.string x113_.in__Begin), (Value.string x113_.in__End), (vB x113_.in__Point), (vI .i64 x113_.from_), (vI .i64 x113_.till)]) rfl underlying44 rfl z44 rfl (RC.cells (RS.rc (RS.mono ho hz_R_R1)) hS.2.2 (k * 5 + 0) (fm_cells SN.len hx114_ (i := 0) rfl))) hq112_ ?_
             refine A_tk 8 (v := (vI .i64 x108_)) rfl (by kernel_rfl) (fun w hS => x_move rfl) hq112_ ?_
             refine A_tk 9 (v := (Value.iface 3 (vI .i64 x108_))) rfl (by kernel_rfl) (fun w hS => by kernel_rfl) hq112_ ?_
             refine A_tk 10 (v := ((Value.func (.method "Insert") #[(Value.iface 186 (vQ b88_))] #[]))) rfl (by kernel_rfl) (fun w hS => by kernel_rfl) hq112_ ?_
             refine A_tk 11 (v := ((Value.func (.method "Insert") #[(Value.iface 186 (vQ b88_))] #[]))) rfl (by kernel_rfl) (fun w hS => by kernel_rfl) hq112_ ?_
             refine A_tk 12 (v := (Value.iface 186 (vQ b88_))) rfl (by kernel_rfl) (fun w hS => x_move rfl) hq112_ ?_
             refine A_ready (i := 7) (rs := []) (by kernel_rfl) ?_
             refine AllR.cons ?_ AllR.nil
             have H127_ := ((Holds.bring H111_ 5 rfl) :)
             refine A_op (ls' := #[true, true, true, true, true, true, true, true, true, true, true, true, true, false]) rfl (by kernel_rfl) (T_callG (al := [(vI .i64 ord), (vA #[(Value.string x113_.in__Begin), (Value.string x113_.in__End), (vB x113_.in__Point), (vI .i64 x113_.from_), (vI .i64 x113_.till)])]) (pre := []) rfl rfl cb85 (spIn R1 ord x113_ (hso_)) H127_ ?_)
             rintro R119_ v120_ p131_ w128_ hs118_ ⟨t1121_, t2122_, x1123_, x2124_, rfl, rfl, he125_, he126_⟩ S130_ H129_
             have S132_ := Same.trans (Same.trans S99_ (Same.drew _)) S130_
             have hz_R_R119_ := Sub.trans' hz_R_R1 hs118_
             have hz_R24__R119_ := Sub.trans' hsR1 hs118_
             refine ⟨⟨Holds.rd H129_ 8 rfl, Holds.tr_rd H129_ 10 rfl 11 rfl, (Sub.trans' hs118_ (Holds.ro_at H129_ 0 rfl))⟩, ?_⟩
             refine A_ready (i := 13) (rs := []) (by kernel_rfl) ?_
             refine AllR.cons ?_ AllR.nil
             have H145_ := ((Holds.bring (Holds.bring (Holds.bring (Holds.bring H129_ 3 rfl) 2 rfl) 3 rfl) 3 rfl) :)
             refine A_op (ls' := #[true, true, true, true, true, true, true, true, true, true, true, true, true, true]) rfl (by kernel_rfl) (T_invoke (al := [(vQ b88_), (vA #[((Value.iface t1121_ x1123_)), ((Value.iface t2122_ x2124_))]), ((Value.iface 3 (vI .i64 x108_)))]) (pre := [cl b88_ 188 [(vQ (rt b82_ U1)), (vI .i64 (List.length (insAll ord [] (List.take k (ieL ord OL OV))) : Int)), (vQ b82_)], tr b82_ b82_ U1, clf b82_ 185 [(Value.nilIface), (Value.nilIface), (Value.nilIface), (Value.nilIface), (vP none), (vP none), (vP none), (vI .i64 0)]]) rfl (fun w => by kernel_rfl) (lcons rfl (lcons rfl (lcons (rfl : (Value.iface 3 (vI .i64 x108_)) = ((Value.iface 3 (vI .i64 x108_)))) rfl))) cb147 (itInsert R119_ EK (EO ord) b88_ b82_ (List.length (insAll ord [] (List.take k (ieL ord OL OV))) : Int) [(Value.nilIface), (Value.nilIface), (Value.nilIface), (Value.nilIface), (vP none), (vP none), (vP none), (vI .i64 0)] U1 t1121_ t2122_ 3 x1123_ x2124_ (vI .i64 x108_) (x113_.lo ord) (x113_.hi ord) (((hU1.mono hs118_)).ok) (he125_) (he126_) (⟨by omega, by rw [insAll_len, List.length_take]; simp; omega⟩) (hU1.s)) H145_ ?_)
             rintro v133_ p149_ w146_ ⟨W134_, L1135_, L2136_, z137_, rfl, rfl, he138_, he139_, he140_, he141_, he142_, he143_, he144_⟩ S148_ H147_
             have S150_ := Same.trans S132_ S148_
             have hnx152_ := insAll_snoc (ord := ord) (M := []) (ieL_at (ord := ord) hx114_ hx109_)
             have hTn151_ : TS ord R119_ W134_ (insAll ord [] (List.take (k + 1) (ieL ord OL OV))) := by rw [hnx152_]; exact TS.ins (hU1.mono hs118_) he138_ he139_ he140_ he141_ he142_ he143_ he144_
             refine ⟨⟨Holds.rd H147_ 8 rfl, Holds.tr_rd H147_ 10 rfl 11 rfl, (Sub.trans' hs118_ (Holds.ro_at H147_ 0 rfl))⟩, ?_⟩
             refine A_done (by kernel_rfl) ?_
             refine (X_blkN (X_then (hK103_ _ _ ?_)))
             refine C_reg ?_
             refine sm (vI .i64 (k : Int)) ?_
             refine sv (v := (vI .i64 ((k : Int) + 1))) (x_bin rfl rfl (ib_add (IntWalk.i64_in _ (by omega)))) ?_
             refine sv (v := (vI .i64 ((k : Int) + 1))) (x_assign rfl) ?_
             refine wpList_nil (X_then ?_)
             have H153_ := Holds.recl H147_ 1 rfl ((lcons rfl (lcons (congrArg (vI .i64) ((by rw [hnx152_, insK_len]; rfl) : (List.length (insAll ord [] (List.take k (ieL ord OL OV))) : Int) + 1 = (List.length (insAll ord [] (List.take (k + 1) (ieL ord OL OV))) : Int))) rfl)) : [(vQ (rt b82_ W134_)), (vI .i64 ((List.length (insAll ord [] (List.take k (ieL ord OL OV))) : Int) + 1)), (vQ b82_)] = [(vQ (rt b82_ W134_)), (vI .i64 (List.length (insAll ord [] (List.take (k + 1) (ieL ord OL OV))) : Int)), (vQ b82_)])
             have H154_ := Holds.pkF H153_ [2, 1, 1, 1, 1, 0, 0, 0, 0, 0, 0, 0] 0
             exact ⟨⟨R119_, k + 1, W134_⟩, ⟨_, congrArg (fun e => mkA 133 e []) (ch (ch (ch (ch (ch (ch (ch (ch rfl rfl) rfl) rfl) rfl) rfl) rfl) rfl) (congrArg (vI .i64) ((by first | rfl | omega | (simp; done) | (simp; omega)) : (k : Int) + 1 = ((k + 1 : Nat) : Int)))), H154_, S150_, (hz_R24__R119_), (by first | assumption | omega | exact rfl), (hTn151_)⟩, by first | omega | (dsimp only; omega) | (simp; omega)⟩
            ·have c107_fp : ¬ ((k : Int) < ((List.length OV) : Int)) := of_decide_eq_false c107_f
             omega
           ·have c102_fp : ¬ ((k : Int) < ((List.length OL) : Int)) := of_decide_eq_false c102_f
            refine C_exit (X_thenX (X_thenX (X_blkHit ?_)))
            refine (X_then (hK93_ _ _ ?_))
            refine C_reg ?_
            refine sm (Value.iface 186 (vQ tb)) ?_
            refine sm (Value.iface 186 (vQ b88_)) ?_
            refine sv (v := (vA #[((Value.iface t126_ x128_)), ((Value.iface t227_ x229_))])) (x_loadN (vs := [((Value.iface t126_ x128_)), ((Value.iface t227_ x229_))]) rfl underlying111 rfl z111 rfl (Rd.cells (Holds.rd H98_ 4 rfl) 0 rfl)) ?_
            rw [List.take_of_length_le (by rw [ieL_len hlen.1]; omega)] at hU1
            have hMU_ := hU1.uni (fun e he => ieL_prp (OV := OV) hpo e ((insAll_mem.1 he).resolve_right (by simp))) hq M
            have H158_ := ((Holds.bring (Holds.bring (Holds.bring (Holds.bring (Holds.bring (Holds.bring (Holds.bring H98_ 11 rfl) 11 rfl) 11 rfl) 5 rfl) 4 rfl) 5 rfl) 8 rfl) :)
            refine S_list (T_invoke (al := [(vQ tb), (Value.iface 186 (vQ b88_)), (vA #[((Value.iface t126_ x128_)), ((Value.iface t227_ x229_))])]) (pre := [cl b88_ 188 [(vQ (rt b82_ U1)), (vI .i64 (List.length (insAll ord [] (List.take k (ieL ord OL OV))) : Int)), (vQ b82_)], tr b82_ b82_ U1, clf b82_ 185 [(Value.nilIface), (Value.nilIface), (Value.nilIface), (Value.nilIface), (vP none), (vP none), (vP none), (vI .i64 0)], cl tb 188 [(vQ (rt s0 W)), (vI .i64 (List.length M : Int)), (vQ s0)], tr s0 s0 W, clf s0 185 sc]) rfl (fun w => by kernel_rfl) rfl cb152 (tdUnion R1 ord tb s0 b88_ b82_ (List.length (insAll ord [] (List.take k (ieL ord OL OV))) : Int) sc [(Value.nilIface), (Value.nilIface), (Value.nilIface), (Value.nilIface), (vP none), (vP none), (vP none), (vI .i64 0)] W U1 M t126_ t227_ x128_ x229_ (o.sn.lo ord) (o.sn.hi ord) ((hU1).ok.1) (((EO ord).mono hsR1 he30_)) (((EO ord).mono hsR1 he31_)) (hU1.vint) ((hM.mono hz_R_R1)) (by rw [hU1.len, insAll_len, ieL_len hlen.1]; simp; omega)) H158_ ?_)
            rintro v155_ p162_ w159_ ⟨W2156_, rfl, rfl, he157_⟩ S161_ H160_
            have S163_ := Same.trans S99_ S161_
            refine wpList_nil (X_blkN (X_then (hK57_ _ _ ?_)))
            refine cr fun _ hK164_ => ?_
            refine sv (v := (vA #[(vB false), (vI .i64 0), (vI .i64 0), (vS none 0 0), (vS none 0 0)])) (x_loadN (vs := [(vB false), (vI .i64 0), (vI .i64 0), (vS none 0 0), (vS none 0 0)]) rfl underlying59 rfl z59 rfl (Rd.cells (Holds.rd H160_ 9 rfl) 0 rfl)) ?_
            refine S_list0 (T_storeN (vs := [(vB false), (vI .i64 0), (vI .i64 0), (vS none 0 0), (vS none 0 0)]) rfl rfl z59 rfl (by simp [Value.oneCell']) H160_ 10 rfl (Nat.le_of_ble_eq_true (by rfl)) ?_)
            intro w165_ S167_ H166_
            have S168_ := Same.trans S163_ S167_
            refine wn (hK164_ _ _ ?_)
            refine C_ret ?_
            refine R_any (v := (vA #[(vB false), (vI .i64 0), (vI .i64 0), (vS none 0 0), (vS none 0 0)])) (run_results1 rfl ⟨_, rfl, load_resN underlying59 rfl z59 rfl (vs := [(vB false), (vI .i64 0), (vI .i64 0), (vS none 0 0), (vS none 0 0)]) (Holds.cl_cells H166_ 10 rfl 0 rfl)⟩) ?_
            have H169_ := Holds.recl H166_ 4 rfl ((lcons rfl (lcons (congrArg (vI .i64) ((by rw [hMU_]) : (List.length ((vis (EO ord) (tuStep ord) (o.sn.lo ord) (o.sn.hi ord) U1 M).1) : Int) = (List.length (insAll ord M (List.filter (meetK ord (o.sn.lo ord) (o.sn.hi ord)) (insAll ord [] (ieL ord OL OV)))) : Int))) rfl)) : [(vQ (rt s0 W2156_)), (vI .i64 (List.length ((vis (EO ord) (tuStep ord) (o.sn.lo ord) (o.sn.hi ord) U1 M).1) : Int)), (vQ s0)] = [(vQ (rt s0 W2156_)), (vI .i64 (List.length (insAll ord M (List.filter (meetK ord (o.sn.lo ord) (o.sn.hi ord)) (insAll ord [] (ieL ord OL OV)))) : Int)), (vQ s0)])
            have H170_ := Holds.pkF H169_ [0, 3, 3, 3] 8
            exact ⟨R1, _, _, rfl, hz_R_R1, ⟨(⟨false, 0, 0, (vS none 0 0), (vS none 0 0)⟩ : TA), W2156_, (congrArg (fun l => vA (List.toArray l)) (lcons (congrArg vB ((by first | rfl | omega | (simp; done) | (simp; omega)) : false = ((⟨false, 0, 0, (vS none 0 0), (vS none 0 0)⟩ : TA).oK))) (lcons (congrArg (vI .i64) ((by first | rfl | omega | (simp; done) | (simp; omega)) : 0 = (⟨false, 0, 0, (vS none 0 0), (vS none 0 0)⟩ : TA).n)) (lcons (congrArg (vI .i64) ((by first | rfl | omega | (simp; done) | (simp; omega)) : 0 = (⟨false, 0, 0, (vS none 0 0), (vS none 0 0)⟩ : TA).most)) (lcons ((by first | rfl | omega | (simp; done) | (simp; omega)) : (vS none 0 0) = ((⟨false, 0, 0, (vS none 0 0), (vS none 0 0)⟩ : TA).list)) (lcons ((by first | rfl | omega | (simp; done) | (simp; omega)) : (vS none 0 0) = ((⟨false, 0, 0, (vS none 0 0), (vS none 0 0)⟩ : TA).vals)) rfl)))))), rfl, (by rw [← hMU_]; exact he157_), (⟨rfl, rfl, RS.nil _ _, RS.nil _ _⟩)⟩, S168_, H170_⟩
          ·have c78_fp : ¬ (o.kind = 10) := of_decide_eq_false c78_f
           omega
end Go.Proofs.Ytlnihndjepjagaa
set_option linter.unusedVariables false
set_option linter.unusedSimpArgs false
namespace Go.Proofs.Ytlnihndjepjagaa
open Go Go.RowKit Gw Try
open Go.Value renaming int → vI, bool → vB, slice → vS, pointer → vP, agg → vA, tuple → vT

structure TX where
  q : TO
  ol : List SN
  ov : List Int
def TX.cells (x : TX) : List Value := x.q.cells
theorem TX.len (x : TX) : x.cells.length = 10 := rfl
def tdoM (ord : Int) (M : List IE) (x : TX) : List IE :=
  if x.q.kind = 1 then insK ord ⟨x.q.sn.lo ord, x.q.sn.hi ord, x.q.val⟩ M
  else if x.q.kind = 10 then insAll ord M (List.filter (meetK ord (x.q.sn.lo ord) (x.q.sn.hi ord)) (insAll ord [] (ieL ord x.ol x.ov))) else M
def tdoX (ord : Int) (M : List IE) (x : TX) : TAx :=
  if x.q.kind = 3 then findX ord M (x.q.sn.lo ord) (x.q.sn.hi ord)
  else if x.q.kind = 5 then ⟨false, 0, (visS x.q.n (M.filter (meetK ord (x.q.sn.lo ord) (x.q.sn.hi ord)))).map spanOf, (visS x.q.n (M.filter (meetK ord (x.q.sn.lo ord) (x.q.sn.hi ord)))).map IE.val⟩
  else if x.q.kind = 8 then ⟨false, M.length, [], []⟩ else ⟨false, 0, [], []⟩
structure OpOk (ord : Int) (R : HP) (M : List IE) (x : TX) : Prop where
  k : x.q.kind = 1 ∨ x.q.kind = 3 ∨ x.q.kind = 8 ∨ x.q.kind = 10
  ok : SnOk ord x.q.sn
  len : M.length ≤ 10000000
  find : x.q.kind = 3 → UniqK M
  vis : x.q.kind = 5 → PrpK ord M ∧ ecm ord (x.q.sn.lo ord) (x.q.sn.hi ord) < 0
  uni : x.q.kind = 10 → RS R 5 x.q.other (List.length x.ol) (x.ol.flatMap SN.cells) ∧ RS R 1 x.q.vals (List.length x.ov) (x.ov.map (vI .i64)) ∧ (x.ol.length = x.ov.length ∧ x.ol.length ≤ 1000) ∧ (∀ s ∈ x.ol, SnOk ord s) ∧ (∀ s ∈ x.ol, ecm ord (s.lo ord) (s.hi ord) < 0) ∧ ecm ord (x.q.sn.lo ord) (x.q.sn.hi ord) < 0
theorem OpOk.mono {ord : Int} {R R' : HP} (s : Sub R R') {M : List IE} {x : TX} (h : OpOk ord R M x) : OpOk ord R' M x := ⟨h.k, h.ok, h.len, h.find, h.vis, fun e => ⟨(h.uni e).1.mono s, (h.uni e).2.1.mono s, (h.uni e).2.2⟩⟩
def tdoAll (ord : Int) (l : List TX) : List IE := l.foldl (tdoM ord) []
theorem tdoAll_snoc {ord : Int} {l : List TX} {k : Nat} {x : TX} (h : l[k]? = some x) : tdoAll ord (l.take (k + 1)) = tdoM ord (tdoAll ord (l.take k)) x := by
  rw [take_snoc h]
  unfold tdoAll
  rw [List.foldl_append]; rfl
def AnsTo (ord : Int) (R : HP) (l : List TX) (A : List TA) : Prop := ∀ i a x, A[i]? = some a → l[i]? = some x → AnsAt R a (tdoX ord (tdoAll ord (l.take i)) x)
theorem AnsTo.mono {ord : Int} {R R' : HP} (s : Sub R R') {l : List TX} {A : List TA} (h : AnsTo ord R l A) : AnsTo ord R' l A := fun i a x h1 h2 => (h i a x h1 h2).mono s
theorem AnsTo.snoc {ord : Int} {R R' : HP} {l : List TX} {A : List TA} {x : TX} {a : TA} (s : Sub R R') (h : AnsTo ord R l A) (hx : l[A.length]? = some x) (ha : AnsAt R' a (tdoX ord (tdoAll ord (l.take A.length)) x)) : AnsTo ord R' l (A ++ [a]) := by
  intro i b y h1 h2
  by_cases hi : i < A.length
  · rw [List.getElem?_append_left hi] at h1
    exact (h i b y h1 h2).mono s
  · have hi2 : i = A.length := by
      have := (List.getElem?_eq_some_iff.1 h1).1
      rw [List.length_append] at this; simp at this; omega
    subst hi2
    rw [List.getElem?_append_right (Nat.le_refl _), Nat.sub_self] at h1
    have : a = b := by simpa using h1
    subst this
    have : x = y := by rw [hx] at h2; exact Option.some.inj h2
    subst this
    exact ha


theorem tdo (R : HP) (ord : Int) (tb sb : Nat) (sc : List Value) (W : Tr EK) (M : List IE) (x : TX) (hM : TS ord R W M) (hx : OpOk ord R M x) :
    TriG Try.prog 63 #[(Value.iface 186 (vQ tb)), (vI .i64 ord), (vA #[(vI .i64 x.q.kind), (Value.string x.q.in__In_Begin), (Value.string x.q.in__In_End), (vB x.q.in__In_Point), (vI .i64 x.q.in__From), (vI .i64 x.q.in__Till), (vI .i64 x.q.val), (vI .i64 x.q.n), x.q.other, x.q.vals])] R [cl tb 188 [(vQ (rt sb W)), (vI .i64 (List.length M : Int)), (vQ sb)], tr sb sb W, clf sb 185 sc] (fun R' v__ post__ => ∃ (a : TA) (W2 : Tr EK), v__ = (vA #[(vB a.oK), (vI .i64 a.n), (vI .i64 a.most), a.list, a.vals]) ∧ post__ = [cl tb 188 [(vQ (rt sb W2)), (vI .i64 (List.length (tdoM ord M x) : Int)), (vQ sb)], tr sb sb W2, clf sb 185 sc] ∧ (TS ord R' W2 (tdoM ord M x)) ∧ (AnsAt R' a (tdoX ord M x))) := by
  rcases hx.k with h | h | h | h
  · rw [show tdoM ord M x = insK ord ⟨x.q.sn.lo ord, x.q.sn.hi ord, x.q.val⟩ M from if_pos h, show tdoX ord M x = ⟨false, 0, [], []⟩ by unfold tdoX; rw [if_neg (by omega), if_neg (by omega), if_neg (by omega)]]
    exact tdoIns R ord tb sb sc W M x.q hM hx.ok hx.len h
  · rw [show tdoM ord M x = M by unfold tdoM; rw [if_neg (by omega), if_neg (by omega)], show tdoX ord M x = findX ord M (x.q.sn.lo ord) (x.q.sn.hi ord) from if_pos h]
    exact tdoFind R ord tb sb sc W M x.q hM hx.ok hx.len (hx.find h) h
  · rw [show tdoM ord M x = M by unfold tdoM; rw [if_neg (by omega), if_neg (by omega)]]
    unfold tdoX
    rw [if_neg (by omega), if_neg (by omega), if_pos h]
    exact tdoLen R ord tb sb sc W M x.q hM hx.ok hx.len h
  · obtain ⟨u1, u2, u3, u4, u5, u6⟩ := hx.uni h
    unfold tdoM tdoX
    rw [if_neg (by omega), if_pos h, if_neg (by omega), if_neg (by omega), if_neg (by omega)]
    exact tdoUni R ord tb sb sc W M x.q x.ol x.ov hM hx.ok hx.len u1 u2 u3 u4 u5 u6 h

set_option maxHeartbeats 16000000 in
theorem tdTree (R : HP) (ord : Int) (v : Value) (l : List TX) (hv : RS R 10 v (List.length l) (l.flatMap TX.cells)) (hn : l.length ≤ 100000) (hok : ∀ k x, l[k]? = some x → OpOk ord R (tdoAll ord (l.take k)) x) :
    TriG Try.prog 35 #[(vI .i64 ord), v] R [] (fun R' v__ post__ => ∃ (v' : Value) (A : List TA), v__ = v' ∧ post__ = [] ∧ (RS R' 5 v' (List.length A) (A.flatMap TA.cells)) ∧ (A.length = l.length) ∧ (AnsTo ord R' l A)) := by
 refine TriG.into (n := 26) (al := [(vI .i64 ord), v]) func35 rfl ntmps35 rfl rfl fun w F H => ?_
 refine cr fun _ hK1_ => ?_
 refine sv (v := (vS none 0 0)) (x_assign rfl) ?_
 refine wn (hK1_ _ _ ?_)
 refine cr fun _ hK2_ => ?_
 refine S_list (T_callW (al := []) rfl rfl cb62 (Calls.into (n := 10) func62 rfl ntmps62 rfl rfl ?_))
 refine cr fun _ hK3_ => ?_
 refine sv (v := (Value.nilIface)) (x_assign rfl) ?_
 refine wn (hK3_ _ _ ?_)
 refine cr fun _ hK4_ => ?_
 refine sv (v := (vA #[(Value.nilIface), (Value.nilIface), (Value.nilIface)])) (by kernel_rfl) ?_
 refine sv (v := (vA #[(Value.nilIface), (Value.nilIface), (Value.nilIface), (Value.nilIface), (vP none), (vP none), (vP none), (vI .i64 0)])) (by kernel_rfl) ?_
 refine S_list (T_boxf (v := (vA #[(Value.nilIface), (Value.nilIface), (Value.nilIface), (Value.nilIface), (vP none), (vP none), (vP none), (vI .i64 0)])) rfl H ?_)
 intro b5_ w6_ S8_ H7_
 have S9_ := Same.trans (Same.refl w) S8_
 refine sv (v := (vQ b5_)) (x_assign rfl) ?_
 refine wn (hK4_ _ _ ?_)
 refine cr fun _ hK10_ => ?_
 refine sm (vQ b5_) ?_
 refine sm (vQ b5_) ?_
 refine sv (v := (vA #[(vQ b5_), (vI .i64 0), (vQ b5_)])) (by kernel_rfl) ?_
 refine S_list (T_box (v := (vA #[(vQ b5_), (vI .i64 0), (vQ b5_)])) rfl H7_ ?_)
 intro b11_ w12_ S14_ H13_
 have S15_ := Same.trans S9_ S14_
 refine sv (v := (Value.iface 186 (vQ b11_))) (by kernel_rfl) ?_
 refine sv (v := (Value.iface 186 (vQ b11_))) (x_assign rfl) ?_
 refine wn (hK10_ _ _ ?_)
 refine C_ret ?_
 refine R_any (v := (Value.iface 186 (vQ b11_))) (run_results1 rfl rfl) ⟨_, rfl, ?_⟩
 refine sv (v := (Value.iface 186 (vQ b11_))) (x_assign rfl) ?_
 refine wn (hK2_ _ _ ?_)
 refine cr fun _ hK16_ => ?_
 refine sv (v := (vS none 0 0)) (x_assign rfl) ?_
 refine wn (hK16_ _ _ ?_)
 refine C_seq (fun _ hK17_ => ?_)
 refine cr fun _ hK18_ => ?_
 refine sv (v := (vI .i64 0)) (x_assign rfl) ?_
 refine wn (hK18_ _ _ ?_)
 refine C_block ?_
 have H19_ : Holds w12_ (tr b5_ b5_ (Tr.lf : Tr EK) :: cl b11_ 188 [(vQ b5_), (vI .i64 0), (vQ b5_)] :: clf b5_ 185 [(Value.nilIface), (Value.nilIface), (Value.nilIface), (Value.nilIface), (vP none), (vP none), (vP none), (vI .i64 0)] :: ro R :: F) := Holds.lf_tr H13_
 have H20_ : Holds w12_ (sl 59 5 (vS none 0 0) (List.length ([] : List TA)) (([] : List TA).flatMap TA.cells) :: tr b5_ b5_ (Tr.lf : Tr EK) :: cl b11_ 188 [(vQ b5_), (vI .i64 0), (vQ b5_)] :: clf b5_ 185 [(Value.nilIface), (Value.nilIface), (Value.nilIface), (Value.nilIface), (vP none), (vP none), (vP none), (vI .i64 0)] :: ro R :: F) := Holds.add_nil H19_ 59 5
 have H21_ := Holds.recl H20_ 2 rfl ((lcons ((by first | rfl | omega | (simp; done) | (simp; omega)) : (vQ b5_) = (vQ (rt b5_ (Tr.lf : Tr EK)))) (lcons (congrArg (vI .i64) ((by simp [tdoAll]) : 0 = (List.length (tdoAll ord (List.take 0 l)) : Int))) rfl)) : [(vQ b5_), (vI .i64 0), (vQ b5_)] = [(vQ (rt b5_ (Tr.lf : Tr EK))), (vI .i64 (List.length (tdoAll ord (List.take 0 l)) : Int)), (vQ b5_)])
 refine C_loop (γ := HP × Nat × Value × (Tr EK) × (List TA)) (fun x__ a__ w1__ => match x__ with | ⟨R1, k, cv, W, A⟩ => ∃ h : Env, a__ = mkA 26 (upd (upd (upd (upd (upd (upd h 0 (vI .i64 ord)) 1 v) 4 (vS none 0 0)) 5 (Value.iface 186 (vQ b11_))) 6 cv) 7 (vI .i64 (k : Int))) [] ∧ Holds w1__ (sl 59 5 cv (List.length A) (A.flatMap TA.cells) :: tr b5_ b5_ W :: cl b11_ 188 [(vQ (rt b5_ W)), (vI .i64 (List.length (tdoAll ord (List.take k l)) : Int)), (vQ b5_)] :: clf b5_ 185 [(Value.nilIface), (Value.nilIface), (Value.nilIface), (Value.nilIface), (vP none), (vP none), (vP none), (vI .i64 0)] :: ro R1 :: F) ∧ Same w w1__ ∧ (Sub R R1) ∧ (k ≤ l.length) ∧ (A.length = k) ∧ (TS ord R1 W (tdoAll ord (List.take k l))) ∧ (AnsTo ord R1 l A)) (fun x__ => match x__ with | ⟨R1, k, cv, W, A⟩ => l.length - k) (⟨R, 0, (vS none 0 0), (Tr.lf : Tr EK), ([] : List TA)⟩) ⟨_, congrArg (fun e => mkA 26 e []) (ch (ch (ch (ch (ch (ch rfl rfl) rfl) rfl) rfl) (rfl : (vS none 0 0) = ((vS none 0 0)))) (congrArg (vI .i64) ((by first | rfl | omega | (simp; done) | (simp; omega)) : 0 = (0 : Int)))), H21_, S15_, (Sub.rfl' _), (by first | assumption | omega | exact rfl), (rfl), (by rw [List.take_zero]; exact TS.nil), (fun i a x h => by simp at h)⟩ ?_
 rintro ⟨R1, k, cv, W, A⟩ _ w22_ ⟨h, rfl, H23_, S24_, hsR1, hkk, hAl, hTS, hAn⟩
 refine C_seq (fun _ hK25_ => ?_)
 refine cr fun _ hK26_ => ?_
 refine sm (vI .i64 (k : Int)) ?_
 refine sv (v := v) (x_move rfl) ?_
 refine sv (v := (vI .i64 ((List.length l) : Int))) (x_lenRS rfl (RS.mono hv hsR1) underlying66) ?_
 refine sv (v := (vB (decide ((k : Int) < ((List.length l) : Int))))) (x_bin rfl rfl rfl) ?_
 refine wn (hK26_ _ _ ?_)
 refine C_cond (b := decide ((k : Int) < ((List.length l) : Int))) rfl (fun c27_t => ?_) (fun c27_f => ?_)
 ·have c27_tp : (k : Int) < ((List.length l) : Int) := of_decide_eq_true c27_t
  refine C_skip (X_then (hK25_ _ _ ?_))
  refine C_seq (fun _ hK28_ => ?_)
  refine C_block ?_
  refine C_reg ?_
  refine sv (v := cv) (x_move rfl) ?_
  refine sm (Value.iface 186 (vQ b11_)) ?_
  refine sm (vI .i64 ord) ?_
  refine sv (v := v) (x_move rfl) ?_
  refine sm (vI .i64 (k : Int)) ?_
  obtain ⟨x29_, hx30_, hm31_⟩ := elem_at l k (by omega)
  refine sv (v := (vP (some ⟨(sb v), so v + (k * 10 + 0), none⟩))) (x_idxRS (v := v) rfl (RS.mono hv hsR1) rfl underlying66 z63 (by omega) (by omega) (by omega : _ = k) rfl) ?_
  refine sv (v := (vA #[(vI .i64 x29_.q.kind), (Value.string x29_.q.in__In_Begin), (Value.string x29_.q.in__In_End), (vB x29_.q.in__In_Point), (vI .i64 x29_.q.in__From), (vI .i64 x29_.q.in__Till), (vI .i64 x29_.q.val), (vI .i64 x29_.q.n), x29_.q.other, x29_.q.vals])) (x_loadN (vs := [(vI .i64 x29_.q.kind), (Value.string x29_.q.in__In_Begin), (Value.string x29_.q.in__In_End), (vB x29_.q.in__In_Point), (vI .i64 x29_.q.in__From), (vI .i64 x29_.q.in__Till), (vI .i64 x29_.q.val), (vI .i64 x29_.q.n), x29_.q.other, x29_.q.vals]) rfl underlying63 rfl z63 rfl (RC.cells (RS.rc (RS.mono hv hsR1)) (Holds.ro_at H23_ 4 rfl) (k * 10 + 0) (fm_cells TX.len hx30_ (i := 0) rfl))) ?_
  have H39_ := ((Holds.bring (Holds.bring (Holds.bring (Holds.bring H23_ 3 rfl) 2 rfl) 3 rfl) 4 rfl) :)
  refine S_list (T_callG (al := [(Value.iface 186 (vQ b11_)), (vI .i64 ord), (vA #[(vI .i64 x29_.q.kind), (Value.string x29_.q.in__In_Begin), (Value.string x29_.q.in__In_End), (vB x29_.q.in__In_Point), (vI .i64 x29_.q.in__From), (vI .i64 x29_.q.in__Till), (vI .i64 x29_.q.val), (vI .i64 x29_.q.n), x29_.q.other, x29_.q.vals])]) (pre := [cl b11_ 188 [(vQ (rt b5_ W)), (vI .i64 (List.length (tdoAll ord (List.take k l)) : Int)), (vQ b5_)], tr b5_ b5_ W, clf b5_ 185 [(Value.nilIface), (Value.nilIface), (Value.nilIface), (Value.nilIface), (vP none), (vP none), (vP none), (vI .i64 0)]]) rfl rfl cb63 (tdo R1 ord b11_ b5_ [(Value.nilIface), (Value.nilIface), (Value.nilIface), (Value.nilIface), (vP none), (vP none), (vP none), (vI .i64 0)] W (tdoAll ord (List.take k l)) x29_ (hTS) ((((hok k x29_ hx30_).mono hsR1)))) H39_ ?_)
  rintro R33_ v34_ p43_ w40_ hs32_ ⟨a35_, W236_, rfl, rfl, he37_, he38_⟩ S42_ H41_
  have S44_ := Same.trans S24_ S42_
  have hz_R_R33_ := Sub.trans' hsR1 hs32_
  refine S_list (T_new (obj := .cells #[(vB a35_.oK), (vI .i64 a35_.n), (vI .i64 a35_.most), a35_.list, a35_.vals] 59) (f := fun b__ => .slice (some ⟨b__, 0, none⟩) 1 1) (A := fun b__ => cl b__ 59 [(vB a35_.oK), (vI .i64 a35_.n), (vI .i64 a35_.most), a35_.list, a35_.vals]) (by kernel_rfl) (fun l h => h.alloc _ _) H41_ ?_)
  intro b45_ w46_ S48_ H47_
  have S49_ := Same.trans S44_ S48_
  refine S_list (T_append rfl rfl underlying71 z59 rfl (by decide) H47_ 5 rfl (Holds.cl_src H47_ 0 rfl underlying71 (List.forall_mem_cons.2 ⟨rfl, (List.forall_mem_cons.2 ⟨rfl, (List.forall_mem_cons.2 ⟨rfl, (List.forall_mem_cons.2 ⟨(RS.one (he38_.2.2.1)), (List.forall_mem_cons.2 ⟨(RS.one (he38_.2.2.2)), (fun _ h__ => by cases h__)⟩)⟩)⟩)⟩)⟩) rfl) (by first | omega | (simp only [List.length_append, List.length_cons, List.length_nil]; omega)) ?_)
  intro v50_ w51_ S53_ H52_
  have S54_ := Same.trans S49_ S53_
  refine sv (v := v50_) (x_assign rfl) ?_
  refine wpList_nil (X_blkN (X_then (hK28_ _ _ ?_)))
  refine C_reg ?_
  refine sm (vI .i64 (k : Int)) ?_
  refine sv (v := (vI .i64 ((k : Int) + 1))) (x_bin rfl rfl (ib_add (IntWalk.i64_in _ (by omega)))) ?_
  refine sv (v := (vI .i64 ((k : Int) + 1))) (x_assign rfl) ?_
  refine wpList_nil (X_then ?_)
  have H55_ := Holds.resl H52_ 5 rfl (by simp [TA.cells, List.flatMap_append] : (A.flatMap TA.cells) ++ [(vB a35_.oK), (vI .i64 a35_.n), (vI .i64 a35_.most), a35_.list, a35_.vals] = (A ++ [a35_]).flatMap TA.cells) (by simp : (List.length A) + 1 = (List.length (A ++ [a35_])))
  have H56_ := Holds.recl H55_ 2 rfl ((lcons rfl (lcons (congrArg (vI .i64) ((by rw [tdoAll_snoc hx30_]) : (List.length (tdoM ord (tdoAll ord (List.take k l)) x29_) : Int) = (List.length (tdoAll ord (List.take (k + 1) l)) : Int))) rfl)) : [(vQ (rt b5_ W236_)), (vI .i64 (List.length (tdoM ord (tdoAll ord (List.take k l)) x29_) : Int)), (vQ b5_)] = [(vQ (rt b5_ W236_)), (vI .i64 (List.length (tdoAll ord (List.take (k + 1) l)) : Int)), (vQ b5_)])
  have H57_ := Holds.pkF H56_ [5, 3, 2, 2, 1] 1
  exact ⟨⟨R33_, k + 1, v50_, W236_, (A ++ [a35_])⟩, ⟨_, congrArg (fun e => mkA 26 e []) (ch (ch (ch (ch (ch (ch rfl rfl) rfl) rfl) rfl) rfl) (congrArg (vI .i64) ((by first | rfl | omega | (simp; done) | (simp; omega)) : (k : Int) + 1 = ((k + 1 : Nat) : Int)))), H57_, S54_, (hz_R_R33_), (by first | assumption | omega | exact rfl), (by rw [List.length_append, hAl]; rfl), (by rw [tdoAll_snoc hx30_]; exact he37_), (AnsTo.snoc hs32_ hAn (by rw [hAl]; exact hx30_) (by rw [hAl]; exact he38_))⟩, by first | omega | (dsimp only; omega) | (simp; omega)⟩
 ·have c27_fp : ¬ ((k : Int) < ((List.length l) : Int)) := of_decide_eq_false c27_f
  refine C_exit (X_thenX (X_thenX (X_blkHit ?_)))
  refine (X_then (hK17_ _ _ ?_))
  refine cr fun _ hK58_ => ?_
  refine sv (v := cv) (x_move rfl) ?_
  refine sv (v := cv) (x_assign rfl) ?_
  refine wn (hK58_ _ _ ?_)
  refine C_ret ?_
  refine R_any (v := cv) (run_results1 rfl rfl) ?_
  have H59_ := ((Holds.bring H23_ 4 rfl) :)
  obtain ⟨R60_, hs61_, ⟨R62_, ha63_, hs64_⟩, H65_⟩ := Holds.gift H59_
  have hz_R_R60_ := Sub.trans' hsR1 hs61_
  have hr66_ : RS R60_ 5 cv (List.length A) (A.flatMap TA.cells) := (sl_RS ha63_ (Sub.rfl' _)).mono hs64_
  have H67_ := Holds.pkF H65_ [0] 3
  exact ⟨R60_, _, _, rfl, hz_R_R60_, ⟨cv, A, rfl, rfl, (hr66_), (by omega), (hAn.mono hs61_)⟩, S24_, H67_⟩
end Go.Proofs.Ytlnihndjepjagaa
set_option linter.unusedVariables false
set_option linter.unusedSimpArgs false
namespace Go.Proofs.Ytlnihndjepjagaa
open Go Go.RowKit Gw Try
open Go.Value renaming int → vI, bool → vB, slice → vS, pointer → vP, agg → vA, tuple → vT

structure PN where
  in__In_Begin : ByteArray
  in__In_End : ByteArray
  in__In_Point : Bool
  in__From : Int
  in__Till : Int
  val : Int
def PN.cells (x : PN) : List Value := [(Value.string x.in__In_Begin), (Value.string x.in__In_End), (vB x.in__In_Point), (vI .i64 x.in__From), (vI .i64 x.in__Till), (vI .i64 x.val)]
theorem PN.len (x : PN) : x.cells.length = 6 := rfl

def PN.sn (x : PN) : SN := ⟨x.in__In_Begin, x.in__In_End, x.in__In_Point, x.in__From, x.in__Till⟩
def PN.of (s : SN) (v : Int) : PN := ⟨s.plain.in__Begin, s.plain.in__End, s.plain.in__Point, s.plain.from_, s.plain.till, v⟩
def PN.ie (ord : Int) (x : PN) : IE := ⟨x.sn.lo ord, x.sn.hi ord, x.val⟩
theorem plain_plain (s : SN) : s.plain.plain = s.plain := by
  unfold SN.plain
  by_cases h : s.in__Point = true
  · simp [h]
  · simp [h]
theorem of_sn (s : SN) (v : Int) : (PN.of s v).sn = s.plain := by unfold PN.of PN.sn; cases s.plain; rfl
theorem of_ie {ord : Int} (s : SN) (v : Int) : (PN.of s v).ie ord = ⟨s.lo ord, s.hi ord, v⟩ := by
  unfold PN.ie SN.lo SN.hi
  rw [of_sn, plain_plain]; rfl
def putP (ord : Int) (s : SN) (v : Int) : List PN → List PN
  | [] => [PN.of s v]
  | x :: P => if sAhead ord s x.sn = true then PN.of s v :: x :: P else x :: putP ord s v P
theorem putP_split {ord : Int} {s : SN} {v : Int} : ∀ {P1 P2 : List PN}, (∀ x ∈ P1, sAhead ord s x.sn = false) → (∀ x, P2.head? = some x → sAhead ord s x.sn = true) → putP ord s v (P1 ++ P2) = P1 ++ PN.of s v :: P2
  | [], [], _, _ => rfl
  | [], y :: P2, _, h => by rw [List.nil_append, putP, if_pos (h y rfl)]; rfl
  | x :: P1, P2, h1, h2 => by rw [List.cons_append, putP, if_neg (by rw [h1 x (by simp)]; decide), putP_split (fun y hy => h1 y (by simp [hy])) h2]; rfl
theorem putP_at {ord : Int} {s : SN} {v : Int} {P : List PN} {k : Nat} (h1 : ∀ x ∈ P.take k, sAhead ord s x.sn = false) (h2 : k = P.length ∨ ∃ x, P[k]? = some x ∧ sAhead ord s x.sn = true) : P.take k ++ PN.of s v :: P.drop k = putP ord s v P := by
  have := putP_split (v := v) (P1 := P.take k) (P2 := P.drop k) h1 (fun x hx => by
    rw [List.head?_drop] at hx
    rcases h2 with h2 | ⟨y, hy, hs⟩
    · rw [h2, List.getElem?_eq_none (Nat.le_refl _)] at hx; cases hx
    · rw [hy] at hx; cases hx; exact hs)
  rw [List.take_append_drop] at this
  exact this.symm
theorem putP_ie {ord : Int} {s : SN} {v : Int} : ∀ P : List PN, (putP ord s v P).map (PN.ie ord) = insK ord ⟨s.lo ord, s.hi ord, v⟩ (P.map (PN.ie ord))
  | [] => by show [(PN.of s v).ie ord] = _; rw [of_ie]; rfl
  | x :: P => by
    have e : sAhead ord s x.sn = ahK ord ⟨s.lo ord, s.hi ord, v⟩ (x.ie ord) := by
      unfold ahK sAhead PN.ie
      rfl
    rw [putP, List.map_cons, insK, ← e]
    split
    · rw [List.map_cons, List.map_cons, of_ie]
    · rw [List.map_cons, putP_ie P]
theorem putP_mem {ord : Int} {s : SN} {v : Int} {y : PN} : ∀ {P : List PN}, y ∈ putP ord s v P ↔ y = PN.of s v ∨ y ∈ P
  | [] => by simp [putP]
  | x :: P => by
    rw [putP]
    split
    · simp
    · rw [List.mem_cons, putP_mem, List.mem_cons]
      constructor
      · rintro (h | h | h)
        · exact .inr (.inl h)
        · exact .inl h
        · exact .inr (.inr h)
      · rintro (h | h | h)
        · exact .inr (.inl h)
        · exact .inl h
        · exact .inr (.inr h)
def PSz (P : List PN) : Prop := ∀ x ∈ P, x.in__In_Begin.size ≤ 2147483647
def spFindX (ord : Int) (P : List PN) (s : SN) : TAx := match P.find? (fun x => sSame ord x.sn s) with | none => ⟨false, 0, [], []⟩ | some x => ⟨true, 0, [x.sn], [x.val]⟩
theorem spFindX_none {ord : Int} {P : List PN} {s : SN} (h : ∀ x ∈ P, sSame ord x.sn s = false) : spFindX ord P s = ⟨false, 0, [], []⟩ := by
  unfold spFindX
  rw [List.find?_eq_none.2 (fun x hx => by rw [h x hx]; decide)]
theorem find_split {α : Type} {p : α → Bool} : ∀ {l : List α} {k : Nat} {x : α}, l[k]? = some x → p x = true → (∀ y ∈ l.take k, p y = false) → l.find? p = some x
  | [], k, x, h, _, _ => by simp at h
  | y :: l, 0, x, h, hx, _ => by
    have : y = x := by simpa using h
    subst this
    rw [List.find?_cons, hx]
  | y :: l, k + 1, x, h, hx, hy => by
    rw [List.find?_cons, hy y (by simp)]
    exact find_split (by simpa using h) hx (fun z hz => hy z (by simp [hz]))
theorem spFindX_some {ord : Int} {P : List PN} {s : SN} {k : Nat} {x : PN} (h1 : P[k]? = some x) (h2 : sSame ord x.sn s = true) (h3 : ∀ y ∈ P.take k, sSame ord y.sn s = false) : spFindX ord P s = ⟨true, 0, [x.sn], [x.val]⟩ := by
  have q : P.find? (fun x => sSame ord x.sn s) = some x := by
    refine find_split h1 ?_ ?_
    · show sSame ord x.sn s = true
      exact h2
    · intro y hy
      show sSame ord y.sn s = false
      exact h3 y hy
  unfold spFindX
  rw [q]
theorem all_snoc {α : Type} {Q : α → Prop} {l : List α} {k : Nat} {x : α} (h : ∀ p ∈ l.take k, Q p) (hx : l[k]? = some x) (hp : Q x) : ∀ p ∈ l.take (k + 1), Q p := by
  intro p hm
  rw [take_snoc hx] at hm
  rcases List.mem_append.1 hm with h1 | h1
  · exact h p h1
  · rw [List.mem_singleton.1 h1]; exact hp
theorem same_snoc {ord : Int} {s : SN} {P : List PN} {k : Nat} {x : PN} (h : ∀ y ∈ P.take k, sSame ord y.sn s = false) (hx : P[k]? = some x) (hp : sSame ord x.sn s = false) : ∀ y ∈ P.take (k + 1), sSame ord y.sn s = false := all_snoc (Q := fun x => sSame ord x.sn s = false) h hx hp
theorem ahead_snoc {ord : Int} {s : SN} {P : List PN} {k : Nat} {x : PN} (h : ∀ y ∈ P.take k, sAhead ord s y.sn = false) (hx : P[k]? = some x) (hp : sAhead ord s x.sn = false) : ∀ y ∈ P.take (k + 1), sAhead ord s y.sn = false := all_snoc (Q := fun x => sAhead ord s x.sn = false) h hx hp
theorem filter_snoc {α : Type} {p : α → Bool} {l : List α} {k : Nat} {x : α} (h : l[k]? = some x) : (l.take (k + 1)).filter p = (l.take k).filter p ++ if p x = true then [x] else [] := by
  rw [take_snoc h, List.filter_append]
  congr 1
  rw [List.filter_cons]
  split <;> rfl


set_option maxHeartbeats 8000000 in
theorem spFind (R : HP) (ord : Int) (pb : Nat) (pv : Value) (P : List PN) (s : SN) (hP : RS R 6 pv (List.length P) (P.flatMap PN.cells)) (hz : PSz P) (hs : s.in__Begin.size ≤ 2147483647) (hn : P.length ≤ 100000) :
    Tri Try.prog 81 #[(vQ pb), (vA #[(Value.string s.in__Begin), (Value.string s.in__End), (vB s.in__Point), (vI .i64 s.from_), (vI .i64 s.till)])] R [cl pb 75 [(vI .i64 ord), pv]] (fun v__ post__ => (v__ = (vI .i64 (-1)) ∧ post__ = [cl pb 75 [(vI .i64 ord), pv]] ∧ (∀ x ∈ P, sSame ord x.sn s = false)) ∨ (∃ (k : Nat) (x : PN), v__ = (vI .i64 (k : Int)) ∧ post__ = [cl pb 75 [(vI .i64 ord), pv]] ∧ (P[k]? = some x) ∧ (sSame ord x.sn s = true) ∧ (∀ y ∈ P.take k, sSame ord y.sn s = false))) := by
 refine Tri.into (n := 27) (al := [(vQ pb), (vA #[(Value.string s.in__Begin), (Value.string s.in__End), (vB s.in__Point), (vI .i64 s.from_), (vI .i64 s.till)])]) func81 rfl ntmps81 rfl rfl fun w F H => ?_
 refine cr fun _ hK1_ => ?_
 refine S_list (T_box (v := (vA #[(Value.string s.in__Begin), (Value.string s.in__End), (vB s.in__Point), (vI .i64 s.from_), (vI .i64 s.till)])) rfl H ?_)
 intro b2_ w3_ S5_ H4_
 have S6_ := Same.trans (Same.refl w) S5_
 refine sv (v := (vI .i64 0)) (x_assign rfl) ?_
 refine wn (hK1_ _ _ ?_)
 refine C_seq (fun _ hK7_ => ?_)
 refine cr fun _ hK8_ => ?_
 refine sm (vQ pb) ?_
 refine sv (v := (vQ pb)) (by kernel_rfl) ?_
 refine sv (v := (vP (some ⟨pb, 1, none⟩))) (by kernel_rfl) ?_
 refine sv (v := pv) (x_load1 rfl underlying73 rfl ((Holds.rd H4_ 2 rfl) 1 pv rfl)) ?_
 refine sv (v := (vI .i64 ((List.length P) : Int))) (x_lenRS rfl hP underlying73) ?_
 refine sm (vI .i64 0) ?_
 refine wn (hK8_ _ _ ?_)
 refine C_block ?_
 refine C_loop (γ := Nat × Int) (fun x__ a__ w1__ => match x__ with | ⟨k, t4_v⟩ => ∃ h : Env, a__ = mkA 27 (upd (upd (upd (upd (upd (upd h 0 (vQ pb)) 3 (vQ b2_)) 4 (vI .i64 t4_v)) 10 pv) 11 (vI .i64 ((List.length P) : Int))) 12 (vI .i64 (k : Int))) [] ∧ Holds w1__ (cl b2_ 44 [(Value.string s.in__Begin), (Value.string s.in__End), (vB s.in__Point), (vI .i64 s.from_), (vI .i64 s.till)] :: ro R :: cl pb 75 [(vI .i64 ord), pv] :: F) ∧ Same w w1__ ∧ (k ≤ P.length) ∧ (∀ x ∈ P.take k, sSame ord x.sn s = false)) (fun x__ => match x__ with | ⟨k, t4_v⟩ => P.length - k) (⟨0, 0⟩) ⟨_, congrArg (fun e => mkA 27 e []) (ch (ch (ch (ch (ch (ch rfl rfl) rfl) rfl) rfl) rfl) (congrArg (vI .i64) ((by first | rfl | omega | (simp; done) | (simp; omega)) : 0 = (0 : Int)))), H4_, S6_, (by first | assumption | omega | exact rfl), (fun x h => by simp at h)⟩ ?_
 rintro ⟨k, t4_v⟩ _ w9_ ⟨h, rfl, H10_, S11_, hkk, hno⟩
 refine cr fun _ hK12_ => ?_
 refine sv (v := (vB (decide ((k : Int) < ((List.length P) : Int))))) (x_bin rfl rfl rfl) ?_
 refine wn (hK12_ _ _ ?_)
 refine C_seq (fun _ hK13_ => ?_)
 refine C_cond (b := decide ((k : Int) < ((List.length P) : Int))) rfl (fun c14_t => ?_) (fun c14_f => ?_)
 ·have c14_tp : (k : Int) < ((List.length P) : Int) := of_decide_eq_true c14_t
  refine C_skip (X_then (hK13_ _ _ ?_))
  refine C_seq (fun _ hK15_ => ?_)
  refine C_block ?_
  refine cr fun _ hK16_ => ?_
  refine sm (vI .i64 (k : Int)) ?_
  obtain ⟨x17_, hx18_, hm19_⟩ := elem_at P k (by omega)
  have hz1_ := hz x17_ hm19_
  refine sv (v := (vP (some ⟨(sb pv), so pv + (k * 6 + 0), none⟩))) (x_idxRS (v := pv) rfl hP rfl underlying73 z131 (by omega) (by omega) (by omega : _ = k) rfl) ?_
  refine sv (v := (vA #[(Value.string x17_.in__In_Begin), (Value.string x17_.in__In_End), (vB x17_.in__In_Point), (vI .i64 x17_.in__From), (vI .i64 x17_.in__Till), (vI .i64 x17_.val)])) (x_loadN (vs := [(Value.string x17_.in__In_Begin), (Value.string x17_.in__In_End), (vB x17_.in__In_Point), (vI .i64 x17_.in__From), (vI .i64 x17_.in__Till), (vI .i64 x17_.val)]) rfl underlying131 rfl z131 rfl (RC.cells (RS.rc hP) (Holds.ro_at H10_ 1 rfl) (k * 6 + 0) (fm_cells PN.len hx18_ (i := 0) rfl))) ?_
  refine S_list (T_alloc z131 H10_ ?_)
  intro b20_ w21_ S23_ H22_
  have S24_ := Same.trans S11_ S23_
  refine sv (v := (vI .i64 (k : Int))) (x_assign rfl) ?_
  refine S_list0 (T_storeN (vs := [(Value.string x17_.in__In_Begin), (Value.string x17_.in__In_End), (vB x17_.in__In_Point), (vI .i64 x17_.in__From), (vI .i64 x17_.in__Till), (vI .i64 x17_.val)]) rfl rfl z131 rfl (by simp [Value.oneCell']) H22_ 0 rfl (Nat.le_of_ble_eq_true (by rfl)) ?_)
  intro w25_ S27_ H26_
  have S28_ := Same.trans S24_ S27_
  refine wn (hK16_ _ _ ?_)
  refine C_seq (fun _ hK29_ => ?_)
  refine A_start (S := fun w => Rd b20_ [(Value.string x17_.in__In_Begin), (Value.string x17_.in__In_End), (vB x17_.in__In_Point), (vI .i64 x17_.in__From), (vI .i64 x17_.in__Till), (vI .i64 x17_.val)] w ∧ Rd b2_ [(Value.string s.in__Begin), (Value.string s.in__End), (vB s.in__Point), (vI .i64 s.from_), (vI .i64 s.till)] w ∧ Rd pb [(vI .i64 ord), pv] w ∧ Sub R (hp w)) (N := 8) foll rfl rfl ?_
  have H30_ := Holds.drew_ H26_
  have hq31_ := And.intro (Holds.rd H30_ 0 rfl) (And.intro (Holds.rd H30_ 1 rfl) (And.intro (Holds.rd H30_ 3 rfl) ((Holds.ro_at H30_ 2 rfl))))
  refine A_tk 0 (v := (vQ pb)) rfl (by kernel_rfl) (fun w hS => x_move rfl) hq31_ ?_
  refine A_tk 1 (v := (vQ pb)) rfl (by kernel_rfl) (fun w hS => by kernel_rfl) hq31_ ?_
  refine A_tk 2 (v := (vQ pb)) rfl (by kernel_rfl) (fun w hS => by kernel_rfl) hq31_ ?_
  refine A_tk 3 (v := (vI .i64 ord)) rfl (by kernel_rfl) (fun w hS => x_load1 rfl underlying3 rfl (hS.2.2.1 0 (vI .i64 ord) rfl)) hq31_ ?_
  refine A_tk 4 (v := (vQ b20_)) rfl (by kernel_rfl) (fun w hS => by kernel_rfl) hq31_ ?_
  refine A_tk 5 (v := (vA #[(Value.string x17_.in__In_Begin), (Value.string x17_.in__In_End), (vB x17_.in__In_Point), (vI .i64 x17_.in__From), (vI .i64 x17_.in__Till)])) rfl (by kernel_rfl) (fun w hS => x_loadN (vs := [(Value.string x17_.in__In_Begin), (Value.string x17_.in__In_End), (vB x17_.in__In_Point), (vI .i64 x17_.in__From), (vI .i64 x17_.in__Till)]) rfl underlying44 rfl z44 rfl (Rd.cells hS.1 0 rfl)) hq31_ ?_
  refine A_tk 6 (v := (vA #[(Value.string s.in__Begin), (Value.string s.in__End), (vB s.in__Point), (vI .i64 s.from_), (vI .i64 s.till)])) rfl (by kernel_rfl) (fun w hS => x_loadN (vs := [(Value.string s.in__Begin), (Value.string s.in__End), (vB s.in__Point), (vI .i64 s.from_), (vI .i64 s.till)]) rfl underlying44 rfl z44 rfl (Rd.cells hS.2.1 0 rfl)) hq31_ ?_
  refine A_ready (i := 7) (rs := []) (by kernel_rfl) ?_
  refine AllR.cons ?_ AllR.nil
  have H33_ := ((Holds.bring H30_ 2 rfl) :)
  refine A_op (ls' := #[true, true, true, true, true, true, true, true]) rfl (by kernel_rfl) (T_call (al := [(vI .i64 ord), (vA #[(Value.string x17_.sn.in__Begin), (Value.string x17_.sn.in__End), (vB x17_.sn.in__Point), (vI .i64 x17_.sn.from_), (vI .i64 x17_.sn.till)]), (vA #[(Value.string s.in__Begin), (Value.string s.in__End), (vB s.in__Point), (vI .i64 s.from_), (vI .i64 s.till)])]) (pre := []) rfl (lcons rfl (lcons (congrArg (fun l => vA (List.toArray l)) (lcons (congrArg Value.string ((by first | rfl | omega | (simp; done) | (simp; omega)) : x17_.in__In_Begin = x17_.sn.in__Begin)) (lcons (congrArg Value.string ((by first | rfl | omega | (simp; done) | (simp; omega)) : x17_.in__In_End = x17_.sn.in__End)) (lcons (congrArg vB ((by first | rfl | omega | (simp; done) | (simp; omega)) : x17_.in__In_Point = x17_.sn.in__Point)) (lcons (congrArg (vI .i64) ((by first | rfl | omega | (simp; done) | (simp; omega)) : x17_.in__From = x17_.sn.from_)) (lcons (congrArg (vI .i64) ((by first | rfl | omega | (simp; done) | (simp; omega)) : x17_.in__Till = x17_.sn.till)) rfl)))))) rfl)) cb20 (spSame R ord x17_.sn s (hz1_) (hs)) H33_ ?_)
  rintro v32_ p37_ w34_ ⟨rfl, rfl⟩ S36_ H35_
  have S38_ := Same.trans (Same.trans S28_ (Same.drew _)) S36_
  refine ⟨⟨Holds.rd H35_ 1 rfl, Holds.rd H35_ 2 rfl, Holds.rd H35_ 3 rfl, (Holds.ro_at H35_ 0 rfl)⟩, ?_⟩
  refine A_done (by kernel_rfl) ?_
  refine (X_then (hK29_ _ _ ?_))
  refine C_cond (b := sSame ord x17_.sn s) rfl (fun c39_t => ?_) (fun c39_f => ?_)
  ·skip
   refine cr fun _ hK40_ => ?_
   refine sm (vI .i64 (k : Int)) ?_
   refine sv (v := (vI .i64 (k : Int))) (x_assign rfl) ?_
   refine wn (hK40_ _ _ ?_)
   refine C_ret (X_blkR (X_thenR (X_thenR (X_blkR (X_thenR ?_)))))
   refine R_any (v := (vI .i64 (k : Int))) (run_results1 rfl rfl) ?_
   have H41_ := Holds.pkF H35_ [0, 2] 2
   exact ⟨_, _, rfl, (.inr ⟨k, x17_, rfl, rfl, (hx18_), (c39_t), (hno)⟩), S38_, H41_⟩
  ·skip
   refine C_skip (X_blkN (X_then (hK15_ _ _ ?_)))
   refine C_reg ?_
   refine sv (v := (vI .i64 ((k : Int) + 1))) (x_bin rfl rfl (ib_add (IntWalk.i64_in _ (by omega)))) ?_
   refine sm (vI .i64 ((k : Int) + 1)) ?_
   refine wpList_nil (X_then ?_)
   have H42_ := Holds.pkF H35_ [2, 0, 1] 1
   exact ⟨⟨k + 1, t4_v⟩, ⟨_, congrArg (fun e => mkA 27 e []) (ch (ch (ch (ch (ch (ch rfl rfl) rfl) rfl) rfl) rfl) (congrArg (vI .i64) ((by first | rfl | omega | (simp; done) | (simp; omega)) : (k : Int) + 1 = ((k + 1 : Nat) : Int)))), H42_, S38_, (by first | assumption | omega | exact rfl), (same_snoc hno hx18_ c39_f)⟩, by first | omega | (dsimp only; omega) | (simp; omega)⟩
 ·have c14_fp : ¬ ((k : Int) < ((List.length P) : Int)) := of_decide_eq_false c14_f
  refine C_exit (X_thenX (X_thenX (X_blkHit ?_)))
  refine (X_then (hK7_ _ _ ?_))
  refine cr fun _ hK43_ => ?_
  refine sv (v := (vI .i64 (-1))) (x_assign rfl) ?_
  refine wn (hK43_ _ _ ?_)
  refine C_ret ?_
  refine R_any (v := (vI .i64 (-1))) (run_results1 rfl rfl) ?_
  have H44_ := Holds.pkF H10_ [1, 1] 1
  exact ⟨_, _, rfl, (.inl ⟨rfl, rfl, (by rw [List.take_of_length_le (by omega)] at hno; exact hno)⟩), S11_, H44_⟩
end Go.Proofs.Ytlnihndjepjagaa
set_option linter.unusedVariables false
set_option linter.unusedSimpArgs false
namespace Go.Proofs.Ytlnihndjepjagaa
open Go Go.RowKit Gw Try
open Go.Value renaming int → vI, bool → vB, slice → vS, pointer → vP, agg → vA, tuple → vT

theorem ones_PN (l : List PN) : ∀ u ∈ l.flatMap PN.cells, u.oneCell' = true := by
  intro u hu
  obtain ⟨x, _, h⟩ := List.mem_flatMap.1 hu
  simp [PN.cells] at h
  rcases h with rfl | rfl | rfl | rfl | rfl | rfl <;> rfl
set_option maxHeartbeats 8000000 in
theorem spPut (R : HP) (ord : Int) (pb : Nat) (pv : Value) (P : List PN) (s : SN) (v : Int) (hP : RS R 6 pv (List.length P) (P.flatMap PN.cells)) (hz : PSz P) (hs : s.in__Begin.size ≤ 2147483647) (hn : P.length ≤ 100000) :
    TriG Try.prog 61 #[(vQ pb), (vA #[(Value.string s.in__Begin), (Value.string s.in__End), (vB s.in__Point), (vI .i64 s.from_), (vI .i64 s.till)]), (vI .i64 v)] R [cl pb 75 [(vI .i64 ord), pv]] (fun R' v__ post__ => ∃ (pv' : Value), v__ = (vT #[]) ∧ post__ = [cl pb 75 [(vI .i64 ord), pv']] ∧ (RS R' 6 pv' (List.length (putP ord s v P)) ((putP ord s v P).flatMap PN.cells))) := by
 refine TriG.into (n := 59) (al := [(vQ pb), (vA #[(Value.string s.in__Begin), (Value.string s.in__End), (vB s.in__Point), (vI .i64 s.from_), (vI .i64 s.till)]), (vI .i64 v)]) func61 rfl ntmps61 rfl rfl fun w F H => ?_
 refine cr fun _ hK1_ => ?_
 refine S_list (T_box (v := (vA #[(Value.string s.in__Begin), (Value.string s.in__End), (vB s.in__Point), (vI .i64 s.from_), (vI .i64 s.till)])) rfl H ?_)
 intro b2_ w3_ S5_ H4_
 have S6_ := Same.trans (Same.refl w) S5_
 refine wn (hK1_ _ _ ?_)
 refine cr fun _ hK7_ => ?_
 refine sv (v := (vI .i64 0)) (x_assign rfl) ?_
 refine wn (hK7_ _ _ ?_)
 refine C_seq (fun _ hK8_ => ?_)
 refine C_block ?_
 refine C_loop (γ := Nat) (fun k a__ w1__ => ∃ h : Env, a__ = mkA 59 (upd (upd (upd (upd h 0 (vQ pb)) 2 (vI .i64 v)) 4 (vQ b2_)) 6 (vI .i64 (k : Int))) [] ∧ Holds w1__ (cl b2_ 44 [(Value.string s.in__Begin), (Value.string s.in__End), (vB s.in__Point), (vI .i64 s.from_), (vI .i64 s.till)] :: ro R :: cl pb 75 [(vI .i64 ord), pv] :: F) ∧ Same w w1__ ∧ (k ≤ P.length) ∧ (∀ x ∈ P.take k, sAhead ord s x.sn = false)) (fun k => P.length - k) (0) ⟨_, congrArg (fun e => mkA 59 e []) (ch (ch (ch (ch rfl rfl) rfl) rfl) (congrArg (vI .i64) ((by first | rfl | omega | (simp; done) | (simp; omega)) : 0 = (0 : Int)))), H4_, S6_, (by first | assumption | omega | exact rfl), (fun x h => by simp at h)⟩ ?_
 rintro k _ w9_ ⟨h, rfl, H10_, S11_, hkk, hno⟩
 refine C_seq (fun _ hK12_ => ?_)
 refine C_seq (fun _ hK13_ => ?_)
 refine A_start (S := fun w => Rd b2_ [(Value.string s.in__Begin), (Value.string s.in__End), (vB s.in__Point), (vI .i64 s.from_), (vI .i64 s.till)] w ∧ Rd pb [(vI .i64 ord), pv] w ∧ Sub R (hp w)) (N := 24) foll rfl rfl ?_
 have H14_ := Holds.drew_ H10_
 have hq15_ := And.intro (Holds.rd H14_ 0 rfl) (And.intro (Holds.rd H14_ 2 rfl) ((Holds.ro_at H14_ 1 rfl)))
 refine A_tk 0 (v := (vI .i64 (k : Int))) rfl (by kernel_rfl) (fun w hS => x_move rfl) hq15_ ?_
 refine A_tk 1 (v := (vQ pb)) rfl (by kernel_rfl) (fun w hS => x_move rfl) hq15_ ?_
 refine A_tk 2 (v := (vQ pb)) rfl (by kernel_rfl) (fun w hS => by kernel_rfl) hq15_ ?_
 refine A_tk 3 (v := (vP (some ⟨pb, 1, none⟩))) rfl (by kernel_rfl) (fun w hS => by kernel_rfl) hq15_ ?_
 refine A_tk 4 (v := pv) rfl (by kernel_rfl) (fun w hS => x_load1 rfl underlying73 rfl (hS.2.1 1 pv rfl)) hq15_ ?_
 refine A_tk 5 (v := (vI .i64 ((List.length P) : Int))) rfl (by kernel_rfl) (fun w hS => x_lenRS rfl hP underlying73) hq15_ ?_
 refine A_tk 6 (v := (vB (decide ((k : Int) < ((List.length P) : Int))))) rfl (by kernel_rfl) (fun w hS => x_bin rfl rfl rfl) hq15_ ?_
 refine A_tk 7 (v := (vB (decide ((k : Int) < ((List.length P) : Int))))) rfl (by kernel_rfl) (fun w hS => x_move rfl) hq15_ ?_
 rcases Bool.eq_false_or_eq_true (decide ((k : Int) < ((List.length P) : Int))) with c16_t | c16_f
 ·have c16_tp : (k : Int) < ((List.length P) : Int) := of_decide_eq_true c16_t
  refine A_tkY 8 (j := 7) (dj := 15) (b := true) (v := (vQ pb)) rfl (by kernel_rfl) rfl rfl (congrArg vB c16_t) (fun w hS => x_move rfl) hq15_ ?_
  refine A_tkY 9 (j := 7) (dj := 15) (b := true) (v := (vQ pb)) rfl (by kernel_rfl) rfl rfl (congrArg vB c16_t) (fun w hS => by kernel_rfl) hq15_ ?_
  refine A_tkY 10 (j := 7) (dj := 15) (b := true) (v := (vQ pb)) rfl (by kernel_rfl) rfl rfl (congrArg vB c16_t) (fun w hS => by kernel_rfl) hq15_ ?_
  refine A_tkY 11 (j := 7) (dj := 15) (b := true) (v := (vI .i64 ord)) rfl (by kernel_rfl) rfl rfl (congrArg vB c16_t) (fun w hS => x_load1 rfl underlying3 rfl (hS.2.1 0 (vI .i64 ord) rfl)) hq15_ ?_
  refine A_tkY 12 (j := 7) (dj := 15) (b := true) (v := (vA #[(Value.string s.in__Begin), (Value.string s.in__End), (vB s.in__Point), (vI .i64 s.from_), (vI .i64 s.till)])) rfl (by kernel_rfl) rfl rfl (congrArg vB c16_t) (fun w hS => x_loadN (vs := [(Value.string s.in__Begin), (Value.string s.in__End), (vB s.in__Point), (vI .i64 s.from_), (vI .i64 s.till)]) rfl underlying44 rfl z44 rfl (Rd.cells hS.1 0 rfl)) hq15_ ?_
  refine A_tkY 13 (j := 7) (dj := 15) (b := true) (v := (vQ pb)) rfl (by kernel_rfl) rfl rfl (congrArg vB c16_t) (fun w hS => x_move rfl) hq15_ ?_
  refine A_tkY 14 (j := 7) (dj := 15) (b := true) (v := (vQ pb)) rfl (by kernel_rfl) rfl rfl (congrArg vB c16_t) (fun w hS => by kernel_rfl) hq15_ ?_
  refine A_tkY 15 (j := 7) (dj := 15) (b := true) (v := (vP (some ⟨pb, 1, none⟩))) rfl (by kernel_rfl) rfl rfl (congrArg vB c16_t) (fun w hS => by kernel_rfl) hq15_ ?_
  refine A_tkY 16 (j := 7) (dj := 15) (b := true) (v := pv) rfl (by kernel_rfl) rfl rfl (congrArg vB c16_t) (fun w hS => x_load1 rfl underlying73 rfl (hS.2.1 1 pv rfl)) hq15_ ?_
  refine A_tkY 17 (j := 7) (dj := 15) (b := true) (v := (vI .i64 (k : Int))) rfl (by kernel_rfl) rfl rfl (congrArg vB c16_t) (fun w hS => x_move rfl) hq15_ ?_
  obtain ⟨x17_, hx18_, hm19_⟩ := elem_at P k (by omega)
  have hz1_ := hz x17_ hm19_
  refine A_tkY 18 (j := 7) (dj := 15) (b := true) (v := (vP (some ⟨(sb pv), so pv + (k * 6 + 0), none⟩))) rfl (by kernel_rfl) rfl rfl (congrArg vB c16_t) (fun w hS => x_idxRS (v := pv) rfl hP rfl underlying73 z131 (by omega) (by omega) (by omega : _ = k) rfl) hq15_ ?_
  refine A_tkY 19 (j := 7) (dj := 15) (b := true) (v := (vP (some ⟨(sb pv), so pv + (k * 6 + 0), none⟩))) rfl (by kernel_rfl) rfl rfl (congrArg vB c16_t) (fun w hS => by kernel_rfl) hq15_ ?_
  refine A_tkY 20 (j := 7) (dj := 15) (b := true) (v := (vA #[(Value.string x17_.in__In_Begin), (Value.string x17_.in__In_End), (vB x17_.in__In_Point), (vI .i64 x17_.in__From), (vI .i64 x17_.in__Till)])) rfl (by kernel_rfl) rfl rfl (congrArg vB c16_t) (fun w hS => x_loadN (vs := [(Value.string x17_.in__In_Begin), (Value.string x17_.in__In_End), (vB x17_.in__In_Point), (vI .i64 x17_.in__From), (vI .i64 x17_.in__Till)]) rfl underlying44 rfl z44 rfl (RC.cells (RS.rc hP) hS.2.2 (k * 6 + 0) (fm_cells PN.len hx18_ (i := 0) rfl))) hq15_ ?_
  refine A_ready (i := 21) (rs := []) (by kernel_rfl) ?_
  refine AllR.cons ?_ AllR.nil
  have H21_ := ((Holds.bring H14_ 1 rfl) :)
  refine A_opYes (ls' := #[true, true, true, true, true, true, true, true, true, true, true, true, true, true, true, true, true, true, true, true, true, true, false, false]) (j := 7) (dj := 15) (b := true) rfl (by kernel_rfl) rfl rfl (congrArg vB c16_t) (T_call (al := [(vI .i64 ord), (vA #[(Value.string s.in__Begin), (Value.string s.in__End), (vB s.in__Point), (vI .i64 s.from_), (vI .i64 s.till)]), (vA #[(Value.string x17_.sn.in__Begin), (Value.string x17_.sn.in__End), (vB x17_.sn.in__Point), (vI .i64 x17_.sn.from_), (vI .i64 x17_.sn.till)])]) (pre := []) rfl (lcons rfl (lcons rfl (lcons (congrArg (fun l => vA (List.toArray l)) (lcons (congrArg Value.string ((by first | rfl | omega | (simp; done) | (simp; omega)) : x17_.in__In_Begin = x17_.sn.in__Begin)) (lcons (congrArg Value.string ((by first | rfl | omega | (simp; done) | (simp; omega)) : x17_.in__In_End = x17_.sn.in__End)) (lcons (congrArg vB ((by first | rfl | omega | (simp; done) | (simp; omega)) : x17_.in__In_Point = x17_.sn.in__Point)) (lcons (congrArg (vI .i64) ((by first | rfl | omega | (simp; done) | (simp; omega)) : x17_.in__From = x17_.sn.from_)) (lcons (congrArg (vI .i64) ((by first | rfl | omega | (simp; done) | (simp; omega)) : x17_.in__Till = x17_.sn.till)) rfl)))))) rfl))) cb55 (spAhead R ord s x17_.sn (hs) (hz1_)) H21_ ?_)
  rintro v20_ p25_ w22_ ⟨rfl, rfl⟩ S24_ H23_
  have S26_ := Same.trans (Same.trans S11_ (Same.drew _)) S24_
  refine ⟨⟨Holds.rd H23_ 1 rfl, Holds.rd H23_ 2 rfl, (Holds.ro_at H23_ 0 rfl)⟩, ?_⟩
  have hq27_ := And.intro (Holds.rd H23_ 1 rfl) (And.intro (Holds.rd H23_ 2 rfl) ((Holds.ro_at H23_ 0 rfl)))
  refine A_tkY 22 (j := 7) (dj := 15) (b := true) (v := (vB (!(sAhead ord s x17_.sn)))) rfl (by kernel_rfl) rfl rfl (congrArg vB c16_t) (fun w hS => x_not rfl) hq27_ ?_
  refine A_tk 23 (v := (vB (!(sAhead ord s x17_.sn)))) rfl (by kernel_rfl) (fun w hS => (x_pickT (congrArg vB c16_t) rfl)) hq27_ ?_
  refine A_done (by kernel_rfl) ?_
  refine (X_then (hK13_ _ _ ?_))
  refine C_cond (b := !(sAhead ord s x17_.sn)) rfl (fun c28_t => ?_) (fun c28_f => ?_)
  ·skip
   refine C_skip (X_then (hK12_ _ _ ?_))
   refine C_block ?_
   refine C_reg ?_
   refine sm (vI .i64 (k : Int)) ?_
   refine sv (v := (vI .i64 ((k : Int) + 1))) (x_bin rfl rfl (ib_add (IntWalk.i64_in _ (by omega)))) ?_
   refine sv (v := (vI .i64 ((k : Int) + 1))) (x_assign rfl) ?_
   refine wpList_nil (X_blkN (X_then ?_))
   have H29_ := Holds.pkF H23_ [1, 0, 0] 0
   exact ⟨(k + 1), ⟨_, congrArg (fun e => mkA 59 e []) (ch (ch (ch (ch rfl rfl) rfl) rfl) (congrArg (vI .i64) ((by first | rfl | omega | (simp; done) | (simp; omega)) : (k : Int) + 1 = ((k + 1 : Nat) : Int)))), H29_, S26_, (by first | assumption | omega | exact rfl), (ahead_snoc hno hx18_ (by simpa using c28_t))⟩, by first | omega | (dsimp only; omega) | (simp; omega)⟩
  ·skip
   refine C_exit (X_thenX (X_thenX (X_blkHit ?_)))
   refine (X_then (hK8_ _ _ ?_))
   refine cr fun _ hK30_ => ?_
   refine S_list (T_new (obj := .cells #[] 131) (f := fun b__ => .slice (some ⟨b__, 0, none⟩) 0 0) (A := fun b__ => cl b__ 131 []) (by kernel_rfl) (fun l h => h.alloc _ _) H23_ ?_)
   intro b31_ w32_ S34_ H33_
   have S35_ := Same.trans S26_ S34_
   refine sm (vQ pb) ?_
   refine sv (v := (vQ pb)) (by kernel_rfl) ?_
   refine sv (v := (vP (some ⟨pb, 1, none⟩))) (by kernel_rfl) ?_
   refine sv (v := pv) (x_load1 rfl underlying73 rfl ((Holds.rd H33_ 3 rfl) 1 pv rfl)) ?_
   refine sm (vI .i64 (k : Int)) ?_
   refine sv (v := (slc pv 0 k 6)) (x_sliceRS (l := 0) (h := k) rfl hP underlying73 z131 (by omega) ⟨_, _, rfl, by omega, by omega, by omega⟩ rfl) ?_
   have H36_ : Holds w32_ (cl b31_ 131 ([] ++ [] ++ []) :: ro R :: cl b2_ 44 [(Value.string s.in__Begin), (Value.string s.in__End), (vB s.in__Point), (vI .i64 s.from_), (vI .i64 s.till)] :: cl pb 75 [(vI .i64 ord), pv] :: F) := cast1 (P := fun (c__ : List Value) => Holds w32_ (cl b31_ 131 c__ :: ro R :: cl b2_ 44 [(Value.string s.in__Begin), (Value.string s.in__End), (vB s.in__Point), (vI .i64 s.from_), (vI .i64 s.till)] :: cl pb 75 [(vI .i64 ord), pv] :: F)) (by kernel_rfl : [] = [] ++ [] ++ []) H33_
   have H37_ : Holds w32_ (sl 131 6 (vS (some ⟨b31_, 0, none⟩) 0 0) 0 [] :: ro R :: cl b2_ 44 [(Value.string s.in__Begin), (Value.string s.in__End), (vB s.in__Point), (vI .i64 s.from_), (vI .i64 s.till)] :: cl pb 75 [(vI .i64 ord), pv] :: F) := Holds.to_sl H36_ 0 [] [] (xs := []) (m := 0) (cap := 0) (sz := 6) rfl (by kernel_rfl) (by kernel_rfl) (by omega)
   refine S_list (T_append rfl rfl underlying73 z131 rfl (by decide) H37_ 0 rfl (RS.src (RS.slcF PN.len hP (by omega : 0 ≤ k) (by omega)) (Holds.ro_at H37_ 1 rfl) underlying73 (ones_PN _)) (by simp only [List.length_append, List.length_cons, List.length_nil, List.length_take, List.length_drop]; omega) ?_)
   intro v38_ w39_ S41_ H40_
   have S42_ := Same.trans S35_ S41_
   refine sv (v := v38_) (x_assign rfl) ?_
   refine wn (hK30_ _ _ ?_)
   refine A_start (S := fun w => Rd b2_ [(Value.string s.in__Begin), (Value.string s.in__End), (vB s.in__Point), (vI .i64 s.from_), (vI .i64 s.till)] w ∧ Sub R (hp w)) (N := 18) foll rfl rfl ?_
   have H43_ := Holds.drew_ H40_
   have hq44_ := And.intro (Holds.rd H43_ 2 rfl) ((Holds.ro_at H43_ 1 rfl))
   refine A_tk 0 (v := (vQ pb)) rfl (by kernel_rfl) (fun w hS => x_move rfl) hq44_ ?_
   refine A_tk 1 (v := v38_) rfl (by kernel_rfl) (fun w hS => x_move rfl) hq44_ ?_
   refine A_tk 2 (v := (vA #[(Value.string s.in__Begin), (Value.string s.in__End), (vB s.in__Point), (vI .i64 s.from_), (vI .i64 s.till)])) rfl (by kernel_rfl) (fun w hS => x_loadN (vs := [(Value.string s.in__Begin), (Value.string s.in__End), (vB s.in__Point), (vI .i64 s.from_), (vI .i64 s.till)]) rfl underlying44 rfl z44 rfl (Rd.cells hS.1 0 rfl)) hq44_ ?_
   refine A_tk 4 (v := (vI .i64 v)) rfl (by kernel_rfl) (fun w hS => x_move rfl) hq44_ ?_
   refine A_tk 8 (v := (vQ pb)) rfl (by kernel_rfl) (fun w hS => x_move rfl) hq44_ ?_
   refine A_tk 9 (v := (vQ pb)) rfl (by kernel_rfl) (fun w hS => by kernel_rfl) hq44_ ?_
   refine A_tk 10 (v := (vP (some ⟨pb, 1, none⟩))) rfl (by kernel_rfl) (fun w hS => by kernel_rfl) hq44_ ?_
   refine A_tk 12 (v := (vI .i64 (k : Int))) rfl (by kernel_rfl) (fun w hS => x_move rfl) hq44_ ?_
   refine A_ready (i := 3) (rs := [11]) (by kernel_rfl) ?_
   refine AllR.cons ?_ ?_
   ·skip
    have H46_ := ((Holds.bring H43_ 1 rfl) :)
    refine A_op (ls' := #[true, true, true, true, true, false, false, false, true, true, true, false, true, false, false, false, false, false]) rfl (by kernel_rfl) (T_call (al := [(vA #[(Value.string s.in__Begin), (Value.string s.in__End), (vB s.in__Point), (vI .i64 s.from_), (vI .i64 s.till)])]) (pre := []) rfl rfl cb76 (spPlain R s (hs)) H46_ ?_)
    rintro v45_ p50_ w47_ ⟨rfl, rfl⟩ S49_ H48_
    have S51_ := Same.trans (Same.trans S42_ (Same.drew _)) S49_
    refine ⟨⟨Holds.rd H48_ 2 rfl, (Holds.ro_at H48_ 0 rfl)⟩, ?_⟩
    have hq52_ := And.intro (Holds.rd H48_ 2 rfl) ((Holds.ro_at H48_ 0 rfl))
    refine A_tk 5 (v := (vA #[(Value.string ((SN.plain s).in__Begin)), (Value.string ((SN.plain s).in__End)), (vB ((SN.plain s).in__Point)), (vI .i64 ((SN.plain s).from_)), (vI .i64 ((SN.plain s).till)), (vI .i64 v)])) rfl (by kernel_rfl) (fun w hS => by kernel_rfl) hq52_ ?_
    refine A_ready (i := 6) (rs := [11]) (by kernel_rfl) ?_
    refine AllR.cons ?_ ?_
    ·skip
     refine A_op (ls' := #[true, true, true, true, true, true, true, false, true, true, true, false, true, false, false, false, false, false]) rfl (by kernel_rfl) (T_new (obj := .cells #[(Value.string ((SN.plain s).in__Begin)), (Value.string ((SN.plain s).in__End)), (vB ((SN.plain s).in__Point)), (vI .i64 ((SN.plain s).from_)), (vI .i64 ((SN.plain s).till)), (vI .i64 v)] 131) (f := fun b__ => .slice (some ⟨b__, 0, none⟩) 1 1) (A := fun b__ => cl b__ 131 [(Value.string ((SN.plain s).in__Begin)), (Value.string ((SN.plain s).in__End)), (vB ((SN.plain s).in__Point)), (vI .i64 ((SN.plain s).from_)), (vI .i64 ((SN.plain s).till)), (vI .i64 v)]) (by kernel_rfl) (fun l h => h.alloc _ _) H48_ ?_)
     intro b53_ w54_ S56_ H55_
     have S57_ := Same.trans S51_ S56_
     refine ⟨⟨Holds.rd H55_ 3 rfl, (Holds.ro_at H55_ 1 rfl)⟩, ?_⟩
     refine A_ready (i := 7) (rs := [11]) (by kernel_rfl) ?_
     refine AllR.cons ?_ ?_
     ·skip
      refine A_op (ls' := #[true, true, true, true, true, true, true, true, true, true, true, false, true, false, false, false, false, false]) rfl (by kernel_rfl) (T_append rfl rfl underlying73 z131 rfl (by decide) H55_ 2 rfl (Holds.cl_src H55_ 0 rfl underlying73 (by simp [Value.oneCell']) rfl) (by simp only [List.length_append, List.length_cons, List.length_nil, List.length_take, List.length_drop]; omega) ?_)
      intro v58_ w59_ S61_ H60_
      have S62_ := Same.trans S57_ S61_
      refine ⟨⟨Holds.rd H60_ 3 rfl, (Holds.ro_at H60_ 1 rfl)⟩, ?_⟩
      refine A_ready (i := 11) (rs := []) (by kernel_rfl) ?_
      refine AllR.cons ?_ AllR.nil
      refine A_op (ls' := #[true, true, true, true, true, true, true, true, true, true, true, true, true, false, false, false, false, false]) rfl (by kernel_rfl) (T_val (v := pv) (x_load1 rfl underlying73 rfl ((Holds.rd H60_ 4 rfl) 1 pv rfl)) ?_)
      refine ⟨⟨Holds.rd H60_ 3 rfl, (Holds.ro_at H60_ 1 rfl)⟩, ?_⟩
      have hq63_ := And.intro (Holds.rd H60_ 3 rfl) ((Holds.ro_at H60_ 1 rfl))
      refine A_tk 13 (v := (slc pv k (List.length P) 6)) rfl (by kernel_rfl) (fun w hS => x_sliceRS (l := k) (h := (List.length P)) rfl hP underlying73 z131 (by omega) rfl ⟨_, _, rfl, by omega, by omega, by omega⟩) hq63_ ?_
      refine A_ready (i := 14) (rs := []) (by kernel_rfl) ?_
      refine AllR.cons ?_ AllR.nil
      refine A_op (ls' := #[true, true, true, true, true, true, true, true, true, true, true, true, true, true, true, false, false, false]) rfl (by kernel_rfl) (T_append rfl rfl underlying73 z131 rfl (by decide) H60_ 2 rfl (RS.src (RS.slcD (a := k) PN.len hP (by omega)) (Holds.ro_at H60_ 1 rfl) underlying73 (ones_PN _)) (by simp only [List.length_append, List.length_cons, List.length_nil, List.length_take, List.length_drop]; omega) ?_)
      intro v64_ w65_ S67_ H66_
      have S68_ := Same.trans S62_ S67_
      refine ⟨⟨Holds.rd H66_ 3 rfl, (Holds.ro_at H66_ 1 rfl)⟩, ?_⟩
      have hq69_ := And.intro (Holds.rd H66_ 3 rfl) ((Holds.ro_at H66_ 1 rfl))
      refine A_tk 15 (v := (vQ pb)) rfl (by kernel_rfl) (fun w hS => by kernel_rfl) hq69_ ?_
      refine A_tk 16 (v := (vP (some ⟨pb, 1, none⟩))) rfl (by kernel_rfl) (fun w hS => by kernel_rfl) hq69_ ?_
      refine A_ready (i := 17) (rs := []) (by kernel_rfl) ?_
      refine AllR.cons ?_ AllR.nil
      refine A_op0 (ls' := #[true, true, true, true, true, true, true, true, true, true, true, true, true, true, true, true, true, true]) rfl (by kernel_rfl) (T_store1 (v := v64_) rfl rfl z73 (Holds.sl_one H66_ 2 rfl) H66_ 4 rfl (Nat.le_of_ble_eq_true (by rfl)) ?_)
      intro w70_ S72_ H71_
      have S73_ := Same.trans S68_ S72_
      refine ⟨⟨Holds.rd H71_ 3 rfl, (Holds.ro_at H71_ 1 rfl)⟩, ?_⟩
      refine A_done (by kernel_rfl) ?_
      refine R_0 rfl ?_
      have hpp_ := putP_at (v := v) hno (.inr ⟨x17_, hx18_, by simpa using c28_f⟩)
      have H74_ := Holds.resl H71_ 2 rfl (by rw [← hpp_]; simp [PN.cells, PN.of, List.flatMap_append] : (([] ++ ((List.take (k - 0) (List.drop 0 P)).flatMap PN.cells)) ++ [(Value.string ((SN.plain s).in__Begin)), (Value.string ((SN.plain s).in__End)), (vB ((SN.plain s).in__Point)), (vI .i64 ((SN.plain s).from_)), (vI .i64 ((SN.plain s).till)), (vI .i64 v)]) ++ ((List.drop k P).flatMap PN.cells) = (putP ord s v P).flatMap PN.cells) (by rw [← hpp_]; first | (simp; done) | (simp; omega) : 0 + (List.length (List.take (k - 0) (List.drop 0 P))) + 1 + (List.length (List.drop k P)) = (List.length (putP ord s v P)))
      have H75_ := ((Holds.bring (Holds.bring H74_ 2 rfl) 2 rfl) :)
      obtain ⟨R76_, hs77_, ⟨R78_, ha79_, hs80_⟩, H81_⟩ := Holds.gift H75_
      have hr82_ : RS R76_ 6 v64_ (List.length (putP ord s v P)) ((putP ord s v P).flatMap PN.cells) := (sl_RS ha79_ (Sub.rfl' _)).mono hs80_
      have H83_ := Holds.pkF H81_ [0, 2] 2
      exact ⟨R76_, _, _, rfl, hs77_, ⟨v64_, rfl, rfl, (hr82_)⟩, S73_, H83_⟩
     refine AllR.cons ?_ AllR.nil
     refine A_op (ls' := #[true, true, true, true, true, true, true, false, true, true, true, true, true, false, false, false, false, false]) rfl (by kernel_rfl) (T_val (v := pv) (x_load1 rfl underlying73 rfl ((Holds.rd H55_ 4 rfl) 1 pv rfl)) ?_)
     refine ⟨⟨Holds.rd H55_ 3 rfl, (Holds.ro_at H55_ 1 rfl)⟩, ?_⟩
     have hq84_ := And.intro (Holds.rd H55_ 3 rfl) ((Holds.ro_at H55_ 1 rfl))
     refine A_tk 13 (v := (slc pv k (List.length P) 6)) rfl (by kernel_rfl) (fun w hS => x_sliceRS (l := k) (h := (List.length P)) rfl hP underlying73 z131 (by omega) rfl ⟨_, _, rfl, by omega, by omega, by omega⟩) hq84_ ?_
     refine A_ready (i := 7) (rs := []) (by kernel_rfl) ?_
     refine AllR.cons ?_ AllR.nil
     refine A_op (ls' := #[true, true, true, true, true, true, true, true, true, true, true, true, true, true, false, false, false, false]) rfl (by kernel_rfl) (T_append rfl rfl underlying73 z131 rfl (by decide) H55_ 2 rfl (Holds.cl_src H55_ 0 rfl underlying73 (by simp [Value.oneCell']) rfl) (by simp only [List.length_append, List.length_cons, List.length_nil, List.length_take, List.length_drop]; omega) ?_)
     intro v85_ w86_ S88_ H87_
     have S89_ := Same.trans S57_ S88_
     refine ⟨⟨Holds.rd H87_ 3 rfl, (Holds.ro_at H87_ 1 rfl)⟩, ?_⟩
     refine A_ready (i := 14) (rs := []) (by kernel_rfl) ?_
     refine AllR.cons ?_ AllR.nil
     refine A_op (ls' := #[true, true, true, true, true, true, true, true, true, true, true, true, true, true, true, false, false, false]) rfl (by kernel_rfl) (T_append rfl rfl underlying73 z131 rfl (by decide) H87_ 2 rfl (RS.src (RS.slcD (a := k) PN.len hP (by omega)) (Holds.ro_at H87_ 1 rfl) underlying73 (ones_PN _)) (by simp only [List.length_append, List.length_cons, List.length_nil, List.length_take, List.length_drop]; omega) ?_)
     intro v90_ w91_ S93_ H92_
     have S94_ := Same.trans S89_ S93_
     refine ⟨⟨Holds.rd H92_ 3 rfl, (Holds.ro_at H92_ 1 rfl)⟩, ?_⟩
     have hq95_ := And.intro (Holds.rd H92_ 3 rfl) ((Holds.ro_at H92_ 1 rfl))
     refine A_tk 15 (v := (vQ pb)) rfl (by kernel_rfl) (fun w hS => by kernel_rfl) hq95_ ?_
     refine A_tk 16 (v := (vP (some ⟨pb, 1, none⟩))) rfl (by kernel_rfl) (fun w hS => by kernel_rfl) hq95_ ?_
     refine A_ready (i := 17) (rs := []) (by kernel_rfl) ?_
     refine AllR.cons ?_ AllR.nil
     refine A_op0 (ls' := #[true, true, true, true, true, true, true, true, true, true, true, true, true, true, true, true, true, true]) rfl (by kernel_rfl) (T_store1 (v := v90_) rfl rfl z73 (Holds.sl_one H92_ 2 rfl) H92_ 4 rfl (Nat.le_of_ble_eq_true (by rfl)) ?_)
     intro w96_ S98_ H97_
     have S99_ := Same.trans S94_ S98_
     refine ⟨⟨Holds.rd H97_ 3 rfl, (Holds.ro_at H97_ 1 rfl)⟩, ?_⟩
     refine A_done (by kernel_rfl) ?_
     refine R_0 rfl ?_
     have hpp_ := putP_at (v := v) hno (.inr ⟨x17_, hx18_, by simpa using c28_f⟩)
     have H100_ := Holds.resl H97_ 2 rfl (by rw [← hpp_]; simp [PN.cells, PN.of, List.flatMap_append] : (([] ++ ((List.take (k - 0) (List.drop 0 P)).flatMap PN.cells)) ++ [(Value.string ((SN.plain s).in__Begin)), (Value.string ((SN.plain s).in__End)), (vB ((SN.plain s).in__Point)), (vI .i64 ((SN.plain s).from_)), (vI .i64 ((SN.plain s).till)), (vI .i64 v)]) ++ ((List.drop k P).flatMap PN.cells) = (putP ord s v P).flatMap PN.cells) (by rw [← hpp_]; first | (simp; done) | (simp; omega) : 0 + (List.length (List.take (k - 0) (List.drop 0 P))) + 1 + (List.length (List.drop k P)) = (List.length (putP ord s v P)))
     have H101_ := ((Holds.bring (Holds.bring H100_ 2 rfl) 2 rfl) :)
     obtain ⟨R102_, hs103_, ⟨R104_, ha105_, hs106_⟩, H107_⟩ := Holds.gift H101_
     have hr108_ : RS R102_ 6 v90_ (List.length (putP ord s v P)) ((putP ord s v P).flatMap PN.cells) := (sl_RS ha105_ (Sub.rfl' _)).mono hs106_
     have H109_ := Holds.pkF H107_ [0, 2] 2
     exact ⟨R102_, _, _, rfl, hs103_, ⟨v90_, rfl, rfl, (hr108_)⟩, S99_, H109_⟩
    refine AllR.cons ?_ AllR.nil
    refine A_op (ls' := #[true, true, true, true, true, true, false, false, true, true, true, true, true, false, false, false, false, false]) rfl (by kernel_rfl) (T_val (v := pv) (x_load1 rfl underlying73 rfl ((Holds.rd H48_ 3 rfl) 1 pv rfl)) ?_)
    refine ⟨⟨Holds.rd H48_ 2 rfl, (Holds.ro_at H48_ 0 rfl)⟩, ?_⟩
    refine A_tk 13 (v := (slc pv k (List.length P) 6)) rfl (by kernel_rfl) (fun w hS => x_sliceRS (l := k) (h := (List.length P)) rfl hP underlying73 z131 (by omega) rfl ⟨_, _, rfl, by omega, by omega, by omega⟩) hq52_ ?_
    refine A_ready (i := 6) (rs := []) (by kernel_rfl) ?_
    refine AllR.cons ?_ AllR.nil
    refine A_op (ls' := #[true, true, true, true, true, true, true, false, true, true, true, true, true, true, false, false, false, false]) rfl (by kernel_rfl) (T_new (obj := .cells #[(Value.string ((SN.plain s).in__Begin)), (Value.string ((SN.plain s).in__End)), (vB ((SN.plain s).in__Point)), (vI .i64 ((SN.plain s).from_)), (vI .i64 ((SN.plain s).till)), (vI .i64 v)] 131) (f := fun b__ => .slice (some ⟨b__, 0, none⟩) 1 1) (A := fun b__ => cl b__ 131 [(Value.string ((SN.plain s).in__Begin)), (Value.string ((SN.plain s).in__End)), (vB ((SN.plain s).in__Point)), (vI .i64 ((SN.plain s).from_)), (vI .i64 ((SN.plain s).till)), (vI .i64 v)]) (by kernel_rfl) (fun l h => h.alloc _ _) H48_ ?_)
    intro b110_ w111_ S113_ H112_
    have S114_ := Same.trans S51_ S113_
    refine ⟨⟨Holds.rd H112_ 3 rfl, (Holds.ro_at H112_ 1 rfl)⟩, ?_⟩
    refine A_ready (i := 7) (rs := []) (by kernel_rfl) ?_
    refine AllR.cons ?_ AllR.nil
    refine A_op (ls' := #[true, true, true, true, true, true, true, true, true, true, true, true, true, true, false, false, false, false]) rfl (by kernel_rfl) (T_append rfl rfl underlying73 z131 rfl (by decide) H112_ 2 rfl (Holds.cl_src H112_ 0 rfl underlying73 (by simp [Value.oneCell']) rfl) (by simp only [List.length_append, List.length_cons, List.length_nil, List.length_take, List.length_drop]; omega) ?_)
    intro v115_ w116_ S118_ H117_
    have S119_ := Same.trans S114_ S118_
    refine ⟨⟨Holds.rd H117_ 3 rfl, (Holds.ro_at H117_ 1 rfl)⟩, ?_⟩
    refine A_ready (i := 14) (rs := []) (by kernel_rfl) ?_
    refine AllR.cons ?_ AllR.nil
    refine A_op (ls' := #[true, true, true, true, true, true, true, true, true, true, true, true, true, true, true, false, false, false]) rfl (by kernel_rfl) (T_append rfl rfl underlying73 z131 rfl (by decide) H117_ 2 rfl (RS.src (RS.slcD (a := k) PN.len hP (by omega)) (Holds.ro_at H117_ 1 rfl) underlying73 (ones_PN _)) (by simp only [List.length_append, List.length_cons, List.length_nil, List.length_take, List.length_drop]; omega) ?_)
    intro v120_ w121_ S123_ H122_
    have S124_ := Same.trans S119_ S123_
    refine ⟨⟨Holds.rd H122_ 3 rfl, (Holds.ro_at H122_ 1 rfl)⟩, ?_⟩
    have hq125_ := And.intro (Holds.rd H122_ 3 rfl) ((Holds.ro_at H122_ 1 rfl))
    refine A_tk 15 (v := (vQ pb)) rfl (by kernel_rfl) (fun w hS => by kernel_rfl) hq125_ ?_
    refine A_tk 16 (v := (vP (some ⟨pb, 1, none⟩))) rfl (by kernel_rfl) (fun w hS => by kernel_rfl) hq125_ ?_
    refine A_ready (i := 17) (rs := []) (by kernel_rfl) ?_
    refine AllR.cons ?_ AllR.nil
    refine A_op0 (ls' := #[true, true, true, true, true, true, true, true, true, true, true, true, true, true, true, true, true, true]) rfl (by kernel_rfl) (T_store1 (v := v120_) rfl rfl z73 (Holds.sl_one H122_ 2 rfl) H122_ 4 rfl (Nat.le_of_ble_eq_true (by rfl)) ?_)
    intro w126_ S128_ H127_
    have S129_ := Same.trans S124_ S128_
    refine ⟨⟨Holds.rd H127_ 3 rfl, (Holds.ro_at H127_ 1 rfl)⟩, ?_⟩
    refine A_done (by kernel_rfl) ?_
    refine R_0 rfl ?_
    have hpp_ := putP_at (v := v) hno (.inr ⟨x17_, hx18_, by simpa using c28_f⟩)
    have H130_ := Holds.resl H127_ 2 rfl (by rw [← hpp_]; simp [PN.cells, PN.of, List.flatMap_append] : (([] ++ ((List.take (k - 0) (List.drop 0 P)).flatMap PN.cells)) ++ [(Value.string ((SN.plain s).in__Begin)), (Value.string ((SN.plain s).in__End)), (vB ((SN.plain s).in__Point)), (vI .i64 ((SN.plain s).from_)), (vI .i64 ((SN.plain s).till)), (vI .i64 v)]) ++ ((List.drop k P).flatMap PN.cells) = (putP ord s v P).flatMap PN.cells) (by rw [← hpp_]; first | (simp; done) | (simp; omega) : 0 + (List.length (List.take (k - 0) (List.drop 0 P))) + 1 + (List.length (List.drop k P)) = (List.length (putP ord s v P)))
    have H131_ := ((Holds.bring (Holds.bring H130_ 2 rfl) 2 rfl) :)
    obtain ⟨R132_, hs133_, ⟨R134_, ha135_, hs136_⟩, H137_⟩ := Holds.gift H131_
    have hr138_ : RS R132_ 6 v120_ (List.length (putP ord s v P)) ((putP ord s v P).flatMap PN.cells) := (sl_RS ha135_ (Sub.rfl' _)).mono hs136_
    have H139_ := Holds.pkF H137_ [0, 2] 2
    exact ⟨R132_, _, _, rfl, hs133_, ⟨v120_, rfl, rfl, (hr138_)⟩, S129_, H139_⟩
   refine AllR.cons ?_ AllR.nil
   refine A_op (ls' := #[true, true, true, false, true, false, false, false, true, true, true, true, true, false, false, false, false, false]) rfl (by kernel_rfl) (T_val (v := pv) (x_load1 rfl underlying73 rfl ((Holds.rd H43_ 3 rfl) 1 pv rfl)) ?_)
   refine ⟨⟨Holds.rd H43_ 2 rfl, (Holds.ro_at H43_ 1 rfl)⟩, ?_⟩
   refine A_tk 13 (v := (slc pv k (List.length P) 6)) rfl (by kernel_rfl) (fun w hS => x_sliceRS (l := k) (h := (List.length P)) rfl hP underlying73 z131 (by omega) rfl ⟨_, _, rfl, by omega, by omega, by omega⟩) hq44_ ?_
   refine A_ready (i := 3) (rs := []) (by kernel_rfl) ?_
   refine AllR.cons ?_ AllR.nil
   have H141_ := ((Holds.bring H43_ 1 rfl) :)
   refine A_op (ls' := #[true, true, true, true, true, false, false, false, true, true, true, true, true, true, false, false, false, false]) rfl (by kernel_rfl) (T_call (al := [(vA #[(Value.string s.in__Begin), (Value.string s.in__End), (vB s.in__Point), (vI .i64 s.from_), (vI .i64 s.till)])]) (pre := []) rfl rfl cb76 (spPlain R s (hs)) H141_ ?_)
   rintro v140_ p145_ w142_ ⟨rfl, rfl⟩ S144_ H143_
   have S146_ := Same.trans (Same.trans S42_ (Same.drew _)) S144_
   refine ⟨⟨Holds.rd H143_ 2 rfl, (Holds.ro_at H143_ 0 rfl)⟩, ?_⟩
   have hq147_ := And.intro (Holds.rd H143_ 2 rfl) ((Holds.ro_at H143_ 0 rfl))
   refine A_tk 5 (v := (vA #[(Value.string ((SN.plain s).in__Begin)), (Value.string ((SN.plain s).in__End)), (vB ((SN.plain s).in__Point)), (vI .i64 ((SN.plain s).from_)), (vI .i64 ((SN.plain s).till)), (vI .i64 v)])) rfl (by kernel_rfl) (fun w hS => by kernel_rfl) hq147_ ?_
   refine A_ready (i := 6) (rs := []) (by kernel_rfl) ?_
   refine AllR.cons ?_ AllR.nil
   refine A_op (ls' := #[true, true, true, true, true, true, true, false, true, true, true, true, true, true, false, false, false, false]) rfl (by kernel_rfl) (T_new (obj := .cells #[(Value.string ((SN.plain s).in__Begin)), (Value.string ((SN.plain s).in__End)), (vB ((SN.plain s).in__Point)), (vI .i64 ((SN.plain s).from_)), (vI .i64 ((SN.plain s).till)), (vI .i64 v)] 131) (f := fun b__ => .slice (some ⟨b__, 0, none⟩) 1 1) (A := fun b__ => cl b__ 131 [(Value.string ((SN.plain s).in__Begin)), (Value.string ((SN.plain s).in__End)), (vB ((SN.plain s).in__Point)), (vI .i64 ((SN.plain s).from_)), (vI .i64 ((SN.plain s).till)), (vI .i64 v)]) (by kernel_rfl) (fun l h => h.alloc _ _) H143_ ?_)
   intro b148_ w149_ S151_ H150_
   have S152_ := Same.trans S146_ S151_
   refine ⟨⟨Holds.rd H150_ 3 rfl, (Holds.ro_at H150_ 1 rfl)⟩, ?_⟩
   refine A_ready (i := 7) (rs := []) (by kernel_rfl) ?_
   refine AllR.cons ?_ AllR.nil
   refine A_op (ls' := #[true, true, true, true, true, true, true, true, true, true, true, true, true, true, false, false, false, false]) rfl (by kernel_rfl) (T_append rfl rfl underlying73 z131 rfl (by decide) H150_ 2 rfl (Holds.cl_src H150_ 0 rfl underlying73 (by simp [Value.oneCell']) rfl) (by simp only [List.length_append, List.length_cons, List.length_nil, List.length_take, List.length_drop]; omega) ?_)
   intro v153_ w154_ S156_ H155_
   have S157_ := Same.trans S152_ S156_
   refine ⟨⟨Holds.rd H155_ 3 rfl, (Holds.ro_at H155_ 1 rfl)⟩, ?_⟩
   refine A_ready (i := 14) (rs := []) (by kernel_rfl) ?_
   refine AllR.cons ?_ AllR.nil
   refine A_op (ls' := #[true, true, true, true, true, true, true, true, true, true, true, true, true, true, true, false, false, false]) rfl (by kernel_rfl) (T_append rfl rfl underlying73 z131 rfl (by decide) H155_ 2 rfl (RS.src (RS.slcD (a := k) PN.len hP (by omega)) (Holds.ro_at H155_ 1 rfl) underlying73 (ones_PN _)) (by simp only [List.length_append, List.length_cons, List.length_nil, List.length_take, List.length_drop]; omega) ?_)
   intro v158_ w159_ S161_ H160_
   have S162_ := Same.trans S157_ S161_
   refine ⟨⟨Holds.rd H160_ 3 rfl, (Holds.ro_at H160_ 1 rfl)⟩, ?_⟩
   have hq163_ := And.intro (Holds.rd H160_ 3 rfl) ((Holds.ro_at H160_ 1 rfl))
   refine A_tk 15 (v := (vQ pb)) rfl (by kernel_rfl) (fun w hS => by kernel_rfl) hq163_ ?_
   refine A_tk 16 (v := (vP (some ⟨pb, 1, none⟩))) rfl (by kernel_rfl) (fun w hS => by kernel_rfl) hq163_ ?_
   refine A_ready (i := 17) (rs := []) (by kernel_rfl) ?_
   refine AllR.cons ?_ AllR.nil
   refine A_op0 (ls' := #[true, true, true, true, true, true, true, true, true, true, true, true, true, true, true, true, true, true]) rfl (by kernel_rfl) (T_store1 (v := v158_) rfl rfl z73 (Holds.sl_one H160_ 2 rfl) H160_ 4 rfl (Nat.le_of_ble_eq_true (by rfl)) ?_)
   intro w164_ S166_ H165_
   have S167_ := Same.trans S162_ S166_
   refine ⟨⟨Holds.rd H165_ 3 rfl, (Holds.ro_at H165_ 1 rfl)⟩, ?_⟩
   refine A_done (by kernel_rfl) ?_
   refine R_0 rfl ?_
   have hpp_ := putP_at (v := v) hno (.inr ⟨x17_, hx18_, by simpa using c28_f⟩)
   have H168_ := Holds.resl H165_ 2 rfl (by rw [← hpp_]; simp [PN.cells, PN.of, List.flatMap_append] : (([] ++ ((List.take (k - 0) (List.drop 0 P)).flatMap PN.cells)) ++ [(Value.string ((SN.plain s).in__Begin)), (Value.string ((SN.plain s).in__End)), (vB ((SN.plain s).in__Point)), (vI .i64 ((SN.plain s).from_)), (vI .i64 ((SN.plain s).till)), (vI .i64 v)]) ++ ((List.drop k P).flatMap PN.cells) = (putP ord s v P).flatMap PN.cells) (by rw [← hpp_]; first | (simp; done) | (simp; omega) : 0 + (List.length (List.take (k - 0) (List.drop 0 P))) + 1 + (List.length (List.drop k P)) = (List.length (putP ord s v P)))
   have H169_ := ((Holds.bring (Holds.bring H168_ 2 rfl) 2 rfl) :)
   obtain ⟨R170_, hs171_, ⟨R172_, ha173_, hs174_⟩, H175_⟩ := Holds.gift H169_
   have hr176_ : RS R170_ 6 v158_ (List.length (putP ord s v P)) ((putP ord s v P).flatMap PN.cells) := (sl_RS ha173_ (Sub.rfl' _)).mono hs174_
   have H177_ := Holds.pkF H175_ [0, 2] 2
   exact ⟨R170_, _, _, rfl, hs171_, ⟨v158_, rfl, rfl, (hr176_)⟩, S167_, H177_⟩
 ·have c16_fp : ¬ ((k : Int) < ((List.length P) : Int)) := of_decide_eq_false c16_f
  refine A_tkN 8 (j := 7) (dj := 15) (b := false) rfl (by kernel_rfl) rfl rfl (congrArg vB c16_f) (by decide) hq15_ ?_
  refine A_tkN 9 (j := 7) (dj := 15) (b := false) rfl (by kernel_rfl) rfl rfl (congrArg vB c16_f) (by decide) hq15_ ?_
  refine A_tkN 10 (j := 7) (dj := 15) (b := false) rfl (by kernel_rfl) rfl rfl (congrArg vB c16_f) (by decide) hq15_ ?_
  refine A_tkN 11 (j := 7) (dj := 15) (b := false) rfl (by kernel_rfl) rfl rfl (congrArg vB c16_f) (by decide) hq15_ ?_
  refine A_tkN 12 (j := 7) (dj := 15) (b := false) rfl (by kernel_rfl) rfl rfl (congrArg vB c16_f) (by decide) hq15_ ?_
  refine A_tkN 13 (j := 7) (dj := 15) (b := false) rfl (by kernel_rfl) rfl rfl (congrArg vB c16_f) (by decide) hq15_ ?_
  refine A_tkN 14 (j := 7) (dj := 15) (b := false) rfl (by kernel_rfl) rfl rfl (congrArg vB c16_f) (by decide) hq15_ ?_
  refine A_tkN 15 (j := 7) (dj := 15) (b := false) rfl (by kernel_rfl) rfl rfl (congrArg vB c16_f) (by decide) hq15_ ?_
  refine A_tkN 16 (j := 7) (dj := 15) (b := false) rfl (by kernel_rfl) rfl rfl (congrArg vB c16_f) (by decide) hq15_ ?_
  refine A_tkN 17 (j := 7) (dj := 15) (b := false) rfl (by kernel_rfl) rfl rfl (congrArg vB c16_f) (by decide) hq15_ ?_
  refine A_tkN 18 (j := 7) (dj := 15) (b := false) rfl (by kernel_rfl) rfl rfl (congrArg vB c16_f) (by decide) hq15_ ?_
  refine A_tkN 19 (j := 7) (dj := 15) (b := false) rfl (by kernel_rfl) rfl rfl (congrArg vB c16_f) (by decide) hq15_ ?_
  refine A_tkN 20 (j := 7) (dj := 15) (b := false) rfl (by kernel_rfl) rfl rfl (congrArg vB c16_f) (by decide) hq15_ ?_
  refine A_tkN 21 (j := 7) (dj := 15) (b := false) rfl (by kernel_rfl) rfl rfl (congrArg vB c16_f) (by decide) hq15_ ?_
  refine A_tkN 22 (j := 7) (dj := 15) (b := false) rfl (by kernel_rfl) rfl rfl (congrArg vB c16_f) (by decide) hq15_ ?_
  refine A_tk 23 (v := (vB false)) rfl (by kernel_rfl) (fun w hS => (x_pickF (congrArg vB c16_f) rfl)) hq15_ ?_
  refine A_done (by kernel_rfl) ?_
  refine (X_then (hK13_ _ _ ?_))
  refine C_condF rfl ?_
  refine C_exit (X_thenX (X_thenX (X_blkHit ?_)))
  refine (X_then (hK8_ _ _ ?_))
  refine cr fun _ hK178_ => ?_
  refine S_list (T_new (obj := .cells #[] 131) (f := fun b__ => .slice (some ⟨b__, 0, none⟩) 0 0) (A := fun b__ => cl b__ 131 []) (by kernel_rfl) (fun l h => h.alloc _ _) H14_ ?_)
  intro b179_ w180_ S182_ H181_
  have S183_ := Same.trans (Same.trans S11_ (Same.drew _)) S182_
  refine sm (vQ pb) ?_
  refine sv (v := (vQ pb)) (by kernel_rfl) ?_
  refine sv (v := (vP (some ⟨pb, 1, none⟩))) (by kernel_rfl) ?_
  refine sv (v := pv) (x_load1 rfl underlying73 rfl ((Holds.rd H181_ 3 rfl) 1 pv rfl)) ?_
  refine sm (vI .i64 (k : Int)) ?_
  refine sv (v := (slc pv 0 k 6)) (x_sliceRS (l := 0) (h := k) rfl hP underlying73 z131 (by omega) ⟨_, _, rfl, by omega, by omega, by omega⟩ rfl) ?_
  have H184_ : Holds w180_ (cl b179_ 131 ([] ++ [] ++ []) :: cl b2_ 44 [(Value.string s.in__Begin), (Value.string s.in__End), (vB s.in__Point), (vI .i64 s.from_), (vI .i64 s.till)] :: ro R :: cl pb 75 [(vI .i64 ord), pv] :: F) := cast1 (P := fun (c__ : List Value) => Holds w180_ (cl b179_ 131 c__ :: cl b2_ 44 [(Value.string s.in__Begin), (Value.string s.in__End), (vB s.in__Point), (vI .i64 s.from_), (vI .i64 s.till)] :: ro R :: cl pb 75 [(vI .i64 ord), pv] :: F)) (by kernel_rfl : [] = [] ++ [] ++ []) H181_
  have H185_ : Holds w180_ (sl 131 6 (vS (some ⟨b179_, 0, none⟩) 0 0) 0 [] :: cl b2_ 44 [(Value.string s.in__Begin), (Value.string s.in__End), (vB s.in__Point), (vI .i64 s.from_), (vI .i64 s.till)] :: ro R :: cl pb 75 [(vI .i64 ord), pv] :: F) := Holds.to_sl H184_ 0 [] [] (xs := []) (m := 0) (cap := 0) (sz := 6) rfl (by kernel_rfl) (by kernel_rfl) (by omega)
  refine S_list (T_append rfl rfl underlying73 z131 rfl (by decide) H185_ 0 rfl (RS.src (RS.slcF PN.len hP (by omega : 0 ≤ k) (by omega)) (Holds.ro_at H185_ 2 rfl) underlying73 (ones_PN _)) (by simp only [List.length_append, List.length_cons, List.length_nil, List.length_take, List.length_drop]; omega) ?_)
  intro v186_ w187_ S189_ H188_
  have S190_ := Same.trans S183_ S189_
  refine sv (v := v186_) (x_assign rfl) ?_
  refine wn (hK178_ _ _ ?_)
  refine A_start (S := fun w => Rd b2_ [(Value.string s.in__Begin), (Value.string s.in__End), (vB s.in__Point), (vI .i64 s.from_), (vI .i64 s.till)] w ∧ Sub R (hp w)) (N := 18) foll rfl rfl ?_
  have H191_ := Holds.drew_ H188_
  have hq192_ := And.intro (Holds.rd H191_ 1 rfl) ((Holds.ro_at H191_ 2 rfl))
  refine A_tk 0 (v := (vQ pb)) rfl (by kernel_rfl) (fun w hS => x_move rfl) hq192_ ?_
  refine A_tk 1 (v := v186_) rfl (by kernel_rfl) (fun w hS => x_move rfl) hq192_ ?_
  refine A_tk 2 (v := (vA #[(Value.string s.in__Begin), (Value.string s.in__End), (vB s.in__Point), (vI .i64 s.from_), (vI .i64 s.till)])) rfl (by kernel_rfl) (fun w hS => x_loadN (vs := [(Value.string s.in__Begin), (Value.string s.in__End), (vB s.in__Point), (vI .i64 s.from_), (vI .i64 s.till)]) rfl underlying44 rfl z44 rfl (Rd.cells hS.1 0 rfl)) hq192_ ?_
  refine A_tk 4 (v := (vI .i64 v)) rfl (by kernel_rfl) (fun w hS => x_move rfl) hq192_ ?_
  refine A_tk 8 (v := (vQ pb)) rfl (by kernel_rfl) (fun w hS => x_move rfl) hq192_ ?_
  refine A_tk 9 (v := (vQ pb)) rfl (by kernel_rfl) (fun w hS => by kernel_rfl) hq192_ ?_
  refine A_tk 10 (v := (vP (some ⟨pb, 1, none⟩))) rfl (by kernel_rfl) (fun w hS => by kernel_rfl) hq192_ ?_
  refine A_tk 12 (v := (vI .i64 (k : Int))) rfl (by kernel_rfl) (fun w hS => x_move rfl) hq192_ ?_
  refine A_ready (i := 3) (rs := [11]) (by kernel_rfl) ?_
  refine AllR.cons ?_ ?_
  ·skip
   have H194_ := ((Holds.bring H191_ 2 rfl) :)
   refine A_op (ls' := #[true, true, true, true, true, false, false, false, true, true, true, false, true, false, false, false, false, false]) rfl (by kernel_rfl) (T_call (al := [(vA #[(Value.string s.in__Begin), (Value.string s.in__End), (vB s.in__Point), (vI .i64 s.from_), (vI .i64 s.till)])]) (pre := []) rfl rfl cb76 (spPlain R s (hs)) H194_ ?_)
   rintro v193_ p198_ w195_ ⟨rfl, rfl⟩ S197_ H196_
   have S199_ := Same.trans (Same.trans S190_ (Same.drew _)) S197_
   refine ⟨⟨Holds.rd H196_ 2 rfl, (Holds.ro_at H196_ 0 rfl)⟩, ?_⟩
   have hq200_ := And.intro (Holds.rd H196_ 2 rfl) ((Holds.ro_at H196_ 0 rfl))
   refine A_tk 5 (v := (vA #[(Value.string ((SN.plain s).in__Begin)), (Value.string ((SN.plain s).in__End)), (vB ((SN.plain s).in__Point)), (vI .i64 ((SN.plain s).from_)), (vI .i64 ((SN.plain s).till)), (vI .i64 v)])) rfl (by kernel_rfl) (fun w hS => by kernel_rfl) hq200_ ?_
   refine A_ready (i := 6) (rs := [11]) (by kernel_rfl) ?_
   refine AllR.cons ?_ ?_
   ·skip
    refine A_op (ls' := #[true, true, true, true, true, true, true, false, true, true, true, false, true, false, false, false, false, false]) rfl (by kernel_rfl) (T_new (obj := .cells #[(Value.string ((SN.plain s).in__Begin)), (Value.string ((SN.plain s).in__End)), (vB ((SN.plain s).in__Point)), (vI .i64 ((SN.plain s).from_)), (vI .i64 ((SN.plain s).till)), (vI .i64 v)] 131) (f := fun b__ => .slice (some ⟨b__, 0, none⟩) 1 1) (A := fun b__ => cl b__ 131 [(Value.string ((SN.plain s).in__Begin)), (Value.string ((SN.plain s).in__End)), (vB ((SN.plain s).in__Point)), (vI .i64 ((SN.plain s).from_)), (vI .i64 ((SN.plain s).till)), (vI .i64 v)]) (by kernel_rfl) (fun l h => h.alloc _ _) H196_ ?_)
    intro b201_ w202_ S204_ H203_
    have S205_ := Same.trans S199_ S204_
    refine ⟨⟨Holds.rd H203_ 3 rfl, (Holds.ro_at H203_ 1 rfl)⟩, ?_⟩
    refine A_ready (i := 7) (rs := [11]) (by kernel_rfl) ?_
    refine AllR.cons ?_ ?_
    ·skip
     refine A_op (ls' := #[true, true, true, true, true, true, true, true, true, true, true, false, true, false, false, false, false, false]) rfl (by kernel_rfl) (T_append rfl rfl underlying73 z131 rfl (by decide) H203_ 2 rfl (Holds.cl_src H203_ 0 rfl underlying73 (by simp [Value.oneCell']) rfl) (by simp only [List.length_append, List.length_cons, List.length_nil, List.length_take, List.length_drop]; omega) ?_)
     intro v206_ w207_ S209_ H208_
     have S210_ := Same.trans S205_ S209_
     refine ⟨⟨Holds.rd H208_ 3 rfl, (Holds.ro_at H208_ 1 rfl)⟩, ?_⟩
     refine A_ready (i := 11) (rs := []) (by kernel_rfl) ?_
     refine AllR.cons ?_ AllR.nil
     refine A_op (ls' := #[true, true, true, true, true, true, true, true, true, true, true, true, true, false, false, false, false, false]) rfl (by kernel_rfl) (T_val (v := pv) (x_load1 rfl underlying73 rfl ((Holds.rd H208_ 4 rfl) 1 pv rfl)) ?_)
     refine ⟨⟨Holds.rd H208_ 3 rfl, (Holds.ro_at H208_ 1 rfl)⟩, ?_⟩
     have hq211_ := And.intro (Holds.rd H208_ 3 rfl) ((Holds.ro_at H208_ 1 rfl))
     refine A_tk 13 (v := (slc pv k (List.length P) 6)) rfl (by kernel_rfl) (fun w hS => x_sliceRS (l := k) (h := (List.length P)) rfl hP underlying73 z131 (by omega) rfl ⟨_, _, rfl, by omega, by omega, by omega⟩) hq211_ ?_
     refine A_ready (i := 14) (rs := []) (by kernel_rfl) ?_
     refine AllR.cons ?_ AllR.nil
     refine A_op (ls' := #[true, true, true, true, true, true, true, true, true, true, true, true, true, true, true, false, false, false]) rfl (by kernel_rfl) (T_append rfl rfl underlying73 z131 rfl (by decide) H208_ 2 rfl (RS.src (RS.slcD (a := k) PN.len hP (by omega)) (Holds.ro_at H208_ 1 rfl) underlying73 (ones_PN _)) (by simp only [List.length_append, List.length_cons, List.length_nil, List.length_take, List.length_drop]; omega) ?_)
     intro v212_ w213_ S215_ H214_
     have S216_ := Same.trans S210_ S215_
     refine ⟨⟨Holds.rd H214_ 3 rfl, (Holds.ro_at H214_ 1 rfl)⟩, ?_⟩
     have hq217_ := And.intro (Holds.rd H214_ 3 rfl) ((Holds.ro_at H214_ 1 rfl))
     refine A_tk 15 (v := (vQ pb)) rfl (by kernel_rfl) (fun w hS => by kernel_rfl) hq217_ ?_
     refine A_tk 16 (v := (vP (some ⟨pb, 1, none⟩))) rfl (by kernel_rfl) (fun w hS => by kernel_rfl) hq217_ ?_
     refine A_ready (i := 17) (rs := []) (by kernel_rfl) ?_
     refine AllR.cons ?_ AllR.nil
     refine A_op0 (ls' := #[true, true, true, true, true, true, true, true, true, true, true, true, true, true, true, true, true, true]) rfl (by kernel_rfl) (T_store1 (v := v212_) rfl rfl z73 (Holds.sl_one H214_ 2 rfl) H214_ 4 rfl (Nat.le_of_ble_eq_true (by rfl)) ?_)
     intro w218_ S220_ H219_
     have S221_ := Same.trans S216_ S220_
     refine ⟨⟨Holds.rd H219_ 3 rfl, (Holds.ro_at H219_ 1 rfl)⟩, ?_⟩
     refine A_done (by kernel_rfl) ?_
     refine R_0 rfl ?_
     have hpp_ := putP_at (v := v) hno (.inl (by omega))
     have H222_ := Holds.resl H219_ 2 rfl (by rw [← hpp_]; simp [PN.cells, PN.of, List.flatMap_append] : (([] ++ ((List.take (k - 0) (List.drop 0 P)).flatMap PN.cells)) ++ [(Value.string ((SN.plain s).in__Begin)), (Value.string ((SN.plain s).in__End)), (vB ((SN.plain s).in__Point)), (vI .i64 ((SN.plain s).from_)), (vI .i64 ((SN.plain s).till)), (vI .i64 v)]) ++ ((List.drop k P).flatMap PN.cells) = (putP ord s v P).flatMap PN.cells) (by rw [← hpp_]; first | (simp; done) | (simp; omega) : 0 + (List.length (List.take (k - 0) (List.drop 0 P))) + 1 + (List.length (List.drop k P)) = (List.length (putP ord s v P)))
     have H223_ := ((Holds.bring (Holds.bring H222_ 2 rfl) 2 rfl) :)
     obtain ⟨R224_, hs225_, ⟨R226_, ha227_, hs228_⟩, H229_⟩ := Holds.gift H223_
     have hr230_ : RS R224_ 6 v212_ (List.length (putP ord s v P)) ((putP ord s v P).flatMap PN.cells) := (sl_RS ha227_ (Sub.rfl' _)).mono hs228_
     have H231_ := Holds.pkF H229_ [0, 2] 2
     exact ⟨R224_, _, _, rfl, hs225_, ⟨v212_, rfl, rfl, (hr230_)⟩, S221_, H231_⟩
    refine AllR.cons ?_ AllR.nil
    refine A_op (ls' := #[true, true, true, true, true, true, true, false, true, true, true, true, true, false, false, false, false, false]) rfl (by kernel_rfl) (T_val (v := pv) (x_load1 rfl underlying73 rfl ((Holds.rd H203_ 4 rfl) 1 pv rfl)) ?_)
    refine ⟨⟨Holds.rd H203_ 3 rfl, (Holds.ro_at H203_ 1 rfl)⟩, ?_⟩
    have hq232_ := And.intro (Holds.rd H203_ 3 rfl) ((Holds.ro_at H203_ 1 rfl))
    refine A_tk 13 (v := (slc pv k (List.length P) 6)) rfl (by kernel_rfl) (fun w hS => x_sliceRS (l := k) (h := (List.length P)) rfl hP underlying73 z131 (by omega) rfl ⟨_, _, rfl, by omega, by omega, by omega⟩) hq232_ ?_
    refine A_ready (i := 7) (rs := []) (by kernel_rfl) ?_
    refine AllR.cons ?_ AllR.nil
    refine A_op (ls' := #[true, true, true, true, true, true, true, true, true, true, true, true, true, true, false, false, false, false]) rfl (by kernel_rfl) (T_append rfl rfl underlying73 z131 rfl (by decide) H203_ 2 rfl (Holds.cl_src H203_ 0 rfl underlying73 (by simp [Value.oneCell']) rfl) (by simp only [List.length_append, List.length_cons, List.length_nil, List.length_take, List.length_drop]; omega) ?_)
    intro v233_ w234_ S236_ H235_
    have S237_ := Same.trans S205_ S236_
    refine ⟨⟨Holds.rd H235_ 3 rfl, (Holds.ro_at H235_ 1 rfl)⟩, ?_⟩
    refine A_ready (i := 14) (rs := []) (by kernel_rfl) ?_
    refine AllR.cons ?_ AllR.nil
    refine A_op (ls' := #[true, true, true, true, true, true, true, true, true, true, true, true, true, true, true, false, false, false]) rfl (by kernel_rfl) (T_append rfl rfl underlying73 z131 rfl (by decide) H235_ 2 rfl (RS.src (RS.slcD (a := k) PN.len hP (by omega)) (Holds.ro_at H235_ 1 rfl) underlying73 (ones_PN _)) (by simp only [List.length_append, List.length_cons, List.length_nil, List.length_take, List.length_drop]; omega) ?_)
    intro v238_ w239_ S241_ H240_
    have S242_ := Same.trans S237_ S241_
    refine ⟨⟨Holds.rd H240_ 3 rfl, (Holds.ro_at H240_ 1 rfl)⟩, ?_⟩
    have hq243_ := And.intro (Holds.rd H240_ 3 rfl) ((Holds.ro_at H240_ 1 rfl))
    refine A_tk 15 (v := (vQ pb)) rfl (by kernel_rfl) (fun w hS => by kernel_rfl) hq243_ ?_
    refine A_tk 16 (v := (vP (some ⟨pb, 1, none⟩))) rfl (by kernel_rfl) (fun w hS => by kernel_rfl) hq243_ ?_
    refine A_ready (i := 17) (rs := []) (by kernel_rfl) ?_
    refine AllR.cons ?_ AllR.nil
    refine A_op0 (ls' := #[true, true, true, true, true, true, true, true, true, true, true, true, true, true, true, true, true, true]) rfl (by kernel_rfl) (T_store1 (v := v238_) rfl rfl z73 (Holds.sl_one H240_ 2 rfl) H240_ 4 rfl (Nat.le_of_ble_eq_true (by rfl)) ?_)
    intro w244_ S246_ H245_
    have S247_ := Same.trans S242_ S246_
    refine ⟨⟨Holds.rd H245_ 3 rfl, (Holds.ro_at H245_ 1 rfl)⟩, ?_⟩
    refine A_done (by kernel_rfl) ?_
    refine R_0 rfl ?_
    have hpp_ := putP_at (v := v) hno (.inl (by omega))
    have H248_ := Holds.resl H245_ 2 rfl (by rw [← hpp_]; simp [PN.cells, PN.of, List.flatMap_append] : (([] ++ ((List.take (k - 0) (List.drop 0 P)).flatMap PN.cells)) ++ [(Value.string ((SN.plain s).in__Begin)), (Value.string ((SN.plain s).in__End)), (vB ((SN.plain s).in__Point)), (vI .i64 ((SN.plain s).from_)), (vI .i64 ((SN.plain s).till)), (vI .i64 v)]) ++ ((List.drop k P).flatMap PN.cells) = (putP ord s v P).flatMap PN.cells) (by rw [← hpp_]; first | (simp; done) | (simp; omega) : 0 + (List.length (List.take (k - 0) (List.drop 0 P))) + 1 + (List.length (List.drop k P)) = (List.length (putP ord s v P)))
    have H249_ := ((Holds.bring (Holds.bring H248_ 2 rfl) 2 rfl) :)
    obtain ⟨R250_, hs251_, ⟨R252_, ha253_, hs254_⟩, H255_⟩ := Holds.gift H249_
    have hr256_ : RS R250_ 6 v238_ (List.length (putP ord s v P)) ((putP ord s v P).flatMap PN.cells) := (sl_RS ha253_ (Sub.rfl' _)).mono hs254_
    have H257_ := Holds.pkF H255_ [0, 2] 2
    exact ⟨R250_, _, _, rfl, hs251_, ⟨v238_, rfl, rfl, (hr256_)⟩, S247_, H257_⟩
   refine AllR.cons ?_ AllR.nil
   refine A_op (ls' := #[true, true, true, true, true, true, false, false, true, true, true, true, true, false, false, false, false, false]) rfl (by kernel_rfl) (T_val (v := pv) (x_load1 rfl underlying73 rfl ((Holds.rd H196_ 3 rfl) 1 pv rfl)) ?_)
   refine ⟨⟨Holds.rd H196_ 2 rfl, (Holds.ro_at H196_ 0 rfl)⟩, ?_⟩
   refine A_tk 13 (v := (slc pv k (List.length P) 6)) rfl (by kernel_rfl) (fun w hS => x_sliceRS (l := k) (h := (List.length P)) rfl hP underlying73 z131 (by omega) rfl ⟨_, _, rfl, by omega, by omega, by omega⟩) hq200_ ?_
   refine A_ready (i := 6) (rs := []) (by kernel_rfl) ?_
   refine AllR.cons ?_ AllR.nil
   refine A_op (ls' := #[true, true, true, true, true, true, true, false, true, true, true, true, true, true, false, false, false, false]) rfl (by kernel_rfl) (T_new (obj := .cells #[(Value.string ((SN.plain s).in__Begin)), (Value.string ((SN.plain s).in__End)), (vB ((SN.plain s).in__Point)), (vI .i64 ((SN.plain s).from_)), (vI .i64 ((SN.plain s).till)), (vI .i64 v)] 131) (f := fun b__ => .slice (some ⟨b__, 0, none⟩) 1 1) (A := fun b__ => cl b__ 131 [(Value.string ((SN.plain s).in__Begin)), (Value.string ((SN.plain s).in__End)), (vB ((SN.plain s).in__Point)), (vI .i64 ((SN.plain s).from_)), (vI .i64 ((SN.plain s).till)), (vI .i64 v)]) (by kernel_rfl) (fun l h => h.alloc _ _) H196_ ?_)
   intro b258_ w259_ S261_ H260_
   have S262_ := Same.trans S199_ S261_
   refine ⟨⟨Holds.rd H260_ 3 rfl, (Holds.ro_at H260_ 1 rfl)⟩, ?_⟩
   refine A_ready (i := 7) (rs := []) (by kernel_rfl) ?_
   refine AllR.cons ?_ AllR.nil
   refine A_op (ls' := #[true, true, true, true, true, true, true, true, true, true, true, true, true, true, false, false, false, false]) rfl (by kernel_rfl) (T_append rfl rfl underlying73 z131 rfl (by decide) H260_ 2 rfl (Holds.cl_src H260_ 0 rfl underlying73 (by simp [Value.oneCell']) rfl) (by simp only [List.length_append, List.length_cons, List.length_nil, List.length_take, List.length_drop]; omega) ?_)
   intro v263_ w264_ S266_ H265_
   have S267_ := Same.trans S262_ S266_
   refine ⟨⟨Holds.rd H265_ 3 rfl, (Holds.ro_at H265_ 1 rfl)⟩, ?_⟩
   refine A_ready (i := 14) (rs := []) (by kernel_rfl) ?_
   refine AllR.cons ?_ AllR.nil
   refine A_op (ls' := #[true, true, true, true, true, true, true, true, true, true, true, true, true, true, true, false, false, false]) rfl (by kernel_rfl) (T_append rfl rfl underlying73 z131 rfl (by decide) H265_ 2 rfl (RS.src (RS.slcD (a := k) PN.len hP (by omega)) (Holds.ro_at H265_ 1 rfl) underlying73 (ones_PN _)) (by simp only [List.length_append, List.length_cons, List.length_nil, List.length_take, List.length_drop]; omega) ?_)
   intro v268_ w269_ S271_ H270_
   have S272_ := Same.trans S267_ S271_
   refine ⟨⟨Holds.rd H270_ 3 rfl, (Holds.ro_at H270_ 1 rfl)⟩, ?_⟩
   have hq273_ := And.intro (Holds.rd H270_ 3 rfl) ((Holds.ro_at H270_ 1 rfl))
   refine A_tk 15 (v := (vQ pb)) rfl (by kernel_rfl) (fun w hS => by kernel_rfl) hq273_ ?_
   refine A_tk 16 (v := (vP (some ⟨pb, 1, none⟩))) rfl (by kernel_rfl) (fun w hS => by kernel_rfl) hq273_ ?_
   refine A_ready (i := 17) (rs := []) (by kernel_rfl) ?_
   refine AllR.cons ?_ AllR.nil
   refine A_op0 (ls' := #[true, true, true, true, true, true, true, true, true, true, true, true, true, true, true, true, true, true]) rfl (by kernel_rfl) (T_store1 (v := v268_) rfl rfl z73 (Holds.sl_one H270_ 2 rfl) H270_ 4 rfl (Nat.le_of_ble_eq_true (by rfl)) ?_)
   intro w274_ S276_ H275_
   have S277_ := Same.trans S272_ S276_
   refine ⟨⟨Holds.rd H275_ 3 rfl, (Holds.ro_at H275_ 1 rfl)⟩, ?_⟩
   refine A_done (by kernel_rfl) ?_
   refine R_0 rfl ?_
   have hpp_ := putP_at (v := v) hno (.inl (by omega))
   have H278_ := Holds.resl H275_ 2 rfl (by rw [← hpp_]; simp [PN.cells, PN.of, List.flatMap_append] : (([] ++ ((List.take (k - 0) (List.drop 0 P)).flatMap PN.cells)) ++ [(Value.string ((SN.plain s).in__Begin)), (Value.string ((SN.plain s).in__End)), (vB ((SN.plain s).in__Point)), (vI .i64 ((SN.plain s).from_)), (vI .i64 ((SN.plain s).till)), (vI .i64 v)]) ++ ((List.drop k P).flatMap PN.cells) = (putP ord s v P).flatMap PN.cells) (by rw [← hpp_]; first | (simp; done) | (simp; omega) : 0 + (List.length (List.take (k - 0) (List.drop 0 P))) + 1 + (List.length (List.drop k P)) = (List.length (putP ord s v P)))
   have H279_ := ((Holds.bring (Holds.bring H278_ 2 rfl) 2 rfl) :)
   obtain ⟨R280_, hs281_, ⟨R282_, ha283_, hs284_⟩, H285_⟩ := Holds.gift H279_
   have hr286_ : RS R280_ 6 v268_ (List.length (putP ord s v P)) ((putP ord s v P).flatMap PN.cells) := (sl_RS ha283_ (Sub.rfl' _)).mono hs284_
   have H287_ := Holds.pkF H285_ [0, 2] 2
   exact ⟨R280_, _, _, rfl, hs281_, ⟨v268_, rfl, rfl, (hr286_)⟩, S277_, H287_⟩
  refine AllR.cons ?_ AllR.nil
  refine A_op (ls' := #[true, true, true, false, true, false, false, false, true, true, true, true, true, false, false, false, false, false]) rfl (by kernel_rfl) (T_val (v := pv) (x_load1 rfl underlying73 rfl ((Holds.rd H191_ 3 rfl) 1 pv rfl)) ?_)
  refine ⟨⟨Holds.rd H191_ 1 rfl, (Holds.ro_at H191_ 2 rfl)⟩, ?_⟩
  refine A_tk 13 (v := (slc pv k (List.length P) 6)) rfl (by kernel_rfl) (fun w hS => x_sliceRS (l := k) (h := (List.length P)) rfl hP underlying73 z131 (by omega) rfl ⟨_, _, rfl, by omega, by omega, by omega⟩) hq192_ ?_
  refine A_ready (i := 3) (rs := []) (by kernel_rfl) ?_
  refine AllR.cons ?_ AllR.nil
  have H289_ := ((Holds.bring H191_ 2 rfl) :)
  refine A_op (ls' := #[true, true, true, true, true, false, false, false, true, true, true, true, true, true, false, false, false, false]) rfl (by kernel_rfl) (T_call (al := [(vA #[(Value.string s.in__Begin), (Value.string s.in__End), (vB s.in__Point), (vI .i64 s.from_), (vI .i64 s.till)])]) (pre := []) rfl rfl cb76 (spPlain R s (hs)) H289_ ?_)
  rintro v288_ p293_ w290_ ⟨rfl, rfl⟩ S292_ H291_
  have S294_ := Same.trans (Same.trans S190_ (Same.drew _)) S292_
  refine ⟨⟨Holds.rd H291_ 2 rfl, (Holds.ro_at H291_ 0 rfl)⟩, ?_⟩
  have hq295_ := And.intro (Holds.rd H291_ 2 rfl) ((Holds.ro_at H291_ 0 rfl))
  refine A_tk 5 (v := (vA #[(Value.string ((SN.plain s).in__Begin)), (Value.string ((SN.plain s).in__End)), (vB ((SN.plain s).in__Point)), (vI .i64 ((SN.plain s).from_)), (vI .i64 ((SN.plain s).till)), (vI .i64 v)])) rfl (by kernel_rfl) (fun w hS => by kernel_rfl) hq295_ ?_
  refine A_ready (i := 6) (rs := []) (by kernel_rfl) ?_
  refine AllR.cons ?_ AllR.nil
  refine A_op (ls' := #[true, true, true, true, true, true, true, false, true, true, true, true, true, true, false, false, false, false]) rfl (by kernel_rfl) (T_new (obj := .cells #[(Value.string ((SN.plain s).in__Begin)), (Value.string ((SN.plain s).in__End)), (vB ((SN.plain s).in__Point)), (vI .i64 ((SN.plain s).from_)), (vI .i64 ((SN.plain s).till)), (vI .i64 v)] 131) (f := fun b__ => .slice (some ⟨b__, 0, none⟩) 1 1) (A := fun b__ => cl b__ 131 [(Value.string ((SN.plain s).in__Begin)), (Value.string ((SN.plain s).in__End)), (vB ((SN.plain s).in__Point)), (vI .i64 ((SN.plain s).from_)), (vI .i64 ((SN.plain s).till)), (vI .i64 v)]) (by kernel_rfl) (fun l h => h.alloc _ _) H291_ ?_)
  intro b296_ w297_ S299_ H298_
  have S300_ := Same.trans S294_ S299_
  refine ⟨⟨Holds.rd H298_ 3 rfl, (Holds.ro_at H298_ 1 rfl)⟩, ?_⟩
  refine A_ready (i := 7) (rs := []) (by kernel_rfl) ?_
  refine AllR.cons ?_ AllR.nil
  refine A_op (ls' := #[true, true, true, true, true, true, true, true, true, true, true, true, true, true, false, false, false, false]) rfl (by kernel_rfl) (T_append rfl rfl underlying73 z131 rfl (by decide) H298_ 2 rfl (Holds.cl_src H298_ 0 rfl underlying73 (by simp [Value.oneCell']) rfl) (by simp only [List.length_append, List.length_cons, List.length_nil, List.length_take, List.length_drop]; omega) ?_)
  intro v301_ w302_ S304_ H303_
  have S305_ := Same.trans S300_ S304_
  refine ⟨⟨Holds.rd H303_ 3 rfl, (Holds.ro_at H303_ 1 rfl)⟩, ?_⟩
  refine A_ready (i := 14) (rs := []) (by kernel_rfl) ?_
  refine AllR.cons ?_ AllR.nil
  refine A_op (ls' := #[true, true, true, true, true, true, true, true, true, true, true, true, true, true, true, false, false, false]) rfl (by kernel_rfl) (T_append rfl rfl underlying73 z131 rfl (by decide) H303_ 2 rfl (RS.src (RS.slcD (a := k) PN.len hP (by omega)) (Holds.ro_at H303_ 1 rfl) underlying73 (ones_PN _)) (by simp only [List.length_append, List.length_cons, List.length_nil, List.length_take, List.length_drop]; omega) ?_)
  intro v306_ w307_ S309_ H308_
  have S310_ := Same.trans S305_ S309_
  refine ⟨⟨Holds.rd H308_ 3 rfl, (Holds.ro_at H308_ 1 rfl)⟩, ?_⟩
  have hq311_ := And.intro (Holds.rd H308_ 3 rfl) ((Holds.ro_at H308_ 1 rfl))
  refine A_tk 15 (v := (vQ pb)) rfl (by kernel_rfl) (fun w hS => by kernel_rfl) hq311_ ?_
  refine A_tk 16 (v := (vP (some ⟨pb, 1, none⟩))) rfl (by kernel_rfl) (fun w hS => by kernel_rfl) hq311_ ?_
  refine A_ready (i := 17) (rs := []) (by kernel_rfl) ?_
  refine AllR.cons ?_ AllR.nil
  refine A_op0 (ls' := #[true, true, true, true, true, true, true, true, true, true, true, true, true, true, true, true, true, true]) rfl (by kernel_rfl) (T_store1 (v := v306_) rfl rfl z73 (Holds.sl_one H308_ 2 rfl) H308_ 4 rfl (Nat.le_of_ble_eq_true (by rfl)) ?_)
  intro w312_ S314_ H313_
  have S315_ := Same.trans S310_ S314_
  refine ⟨⟨Holds.rd H313_ 3 rfl, (Holds.ro_at H313_ 1 rfl)⟩, ?_⟩
  refine A_done (by kernel_rfl) ?_
  refine R_0 rfl ?_
  have hpp_ := putP_at (v := v) hno (.inl (by omega))
  have H316_ := Holds.resl H313_ 2 rfl (by rw [← hpp_]; simp [PN.cells, PN.of, List.flatMap_append] : (([] ++ ((List.take (k - 0) (List.drop 0 P)).flatMap PN.cells)) ++ [(Value.string ((SN.plain s).in__Begin)), (Value.string ((SN.plain s).in__End)), (vB ((SN.plain s).in__Point)), (vI .i64 ((SN.plain s).from_)), (vI .i64 ((SN.plain s).till)), (vI .i64 v)]) ++ ((List.drop k P).flatMap PN.cells) = (putP ord s v P).flatMap PN.cells) (by rw [← hpp_]; first | (simp; done) | (simp; omega) : 0 + (List.length (List.take (k - 0) (List.drop 0 P))) + 1 + (List.length (List.drop k P)) = (List.length (putP ord s v P)))
  have H317_ := ((Holds.bring (Holds.bring H316_ 2 rfl) 2 rfl) :)
  obtain ⟨R318_, hs319_, ⟨R320_, ha321_, hs322_⟩, H323_⟩ := Holds.gift H317_
  have hr324_ : RS R318_ 6 v306_ (List.length (putP ord s v P)) ((putP ord s v P).flatMap PN.cells) := (sl_RS ha321_ (Sub.rfl' _)).mono hs322_
  have H325_ := Holds.pkF H323_ [0, 2] 2
  exact ⟨R318_, _, _, rfl, hs319_, ⟨v306_, rfl, rfl, (hr324_)⟩, S315_, H325_⟩

set_option maxHeartbeats 8000000 in
theorem spMeeting (R : HP) (ord : Int) (pb : Nat) (pv : Value) (P : List PN) (s : SN) (hP : RS R 6 pv (List.length P) (P.flatMap PN.cells)) (hz : PSz P) (hs : s.in__Begin.size ≤ 2147483647) (hn : P.length ≤ 100000) :
    TriG Try.prog 36 #[(vQ pb), (vA #[(Value.string s.in__Begin), (Value.string s.in__End), (vB s.in__Point), (vI .i64 s.from_), (vI .i64 s.till)])] R [cl pb 75 [(vI .i64 ord), pv]] (fun R' v__ post__ => ∃ (v' : Value), v__ = v' ∧ post__ = [cl pb 75 [(vI .i64 ord), pv]] ∧ (RS R' 6 v' (List.length (List.filter (fun x => sMeet ord x.sn s) P)) ((List.filter (fun x => sMeet ord x.sn s) P).flatMap PN.cells))) := by
 refine TriG.into (n := 31) (al := [(vQ pb), (vA #[(Value.string s.in__Begin), (Value.string s.in__End), (vB s.in__Point), (vI .i64 s.from_), (vI .i64 s.till)])]) func36 rfl ntmps36 rfl rfl fun w F H => ?_
 refine cr fun _ hK1_ => ?_
 refine S_list (T_box (v := (vA #[(Value.string s.in__Begin), (Value.string s.in__End), (vB s.in__Point), (vI .i64 s.from_), (vI .i64 s.till)])) rfl H ?_)
 intro b2_ w3_ S5_ H4_
 have S6_ := Same.trans (Same.refl w) S5_
 refine sv (v := (vS none 0 0)) (x_assign rfl) ?_
 refine wn (hK1_ _ _ ?_)
 refine cr fun _ hK7_ => ?_
 refine sv (v := (vS none 0 0)) (x_assign rfl) ?_
 refine wn (hK7_ _ _ ?_)
 refine C_seq (fun _ hK8_ => ?_)
 refine cr fun _ hK9_ => ?_
 refine sm (vQ pb) ?_
 refine sv (v := (vQ pb)) (by kernel_rfl) ?_
 refine sv (v := (vP (some ⟨pb, 1, none⟩))) (by kernel_rfl) ?_
 refine sv (v := pv) (x_load1 rfl underlying73 rfl ((Holds.rd H4_ 2 rfl) 1 pv rfl)) ?_
 refine sv (v := (vI .i64 ((List.length P) : Int))) (x_lenRS rfl hP underlying73) ?_
 refine sm (vI .i64 0) ?_
 refine wn (hK9_ _ _ ?_)
 refine C_block ?_
 have H10_ : Holds w3_ (sl 131 6 (vS none 0 0) (List.length ([] : List PN)) (([] : List PN).flatMap PN.cells) :: cl b2_ 44 [(Value.string s.in__Begin), (Value.string s.in__End), (vB s.in__Point), (vI .i64 s.from_), (vI .i64 s.till)] :: ro R :: cl pb 75 [(vI .i64 ord), pv] :: F) := Holds.add_nil H4_ 131 6
 have H11_ := Holds.resl H10_ 0 rfl ((by first | rfl | (simp [RQ.cells, CM.cells, RT.cells, SN.cells, TO.cells, TA.cells, TX.cells, PN.cells]; done)) : ([] : List PN).flatMap PN.cells = (List.filter (fun x => sMeet ord x.sn s) (List.take 0 P)).flatMap PN.cells) ((by first | rfl | omega | (simp; done) | (simp; omega)) : (List.length ([] : List PN)) = (List.length (List.filter (fun x => sMeet ord x.sn s) (List.take 0 P))))
 refine C_loop (γ := Nat × Value) (fun x__ a__ w1__ => match x__ with | ⟨k, cv⟩ => ∃ h : Env, a__ = mkA 31 (upd (upd (upd (upd (upd (upd (upd h 0 (vQ pb)) 3 (vQ b2_)) 4 (vS none 0 0)) 5 cv) 11 pv) 12 (vI .i64 ((List.length P) : Int))) 13 (vI .i64 (k : Int))) [] ∧ Holds w1__ (sl 131 6 cv (List.length (List.filter (fun x => sMeet ord x.sn s) (List.take k P))) ((List.filter (fun x => sMeet ord x.sn s) (List.take k P)).flatMap PN.cells) :: cl b2_ 44 [(Value.string s.in__Begin), (Value.string s.in__End), (vB s.in__Point), (vI .i64 s.from_), (vI .i64 s.till)] :: ro R :: cl pb 75 [(vI .i64 ord), pv] :: F) ∧ Same w w1__ ∧ (k ≤ P.length)) (fun x__ => match x__ with | ⟨k, cv⟩ => P.length - k) (⟨0, (vS none 0 0)⟩) ⟨_, congrArg (fun e => mkA 31 e []) (ch (ch (ch (ch (ch (ch (ch rfl rfl) rfl) rfl) (rfl : (vS none 0 0) = ((vS none 0 0)))) rfl) rfl) (congrArg (vI .i64) ((by first | rfl | omega | (simp; done) | (simp; omega)) : 0 = (0 : Int)))), H11_, S6_, (by first | assumption | omega | exact rfl)⟩ ?_
 rintro ⟨k, cv⟩ _ w12_ ⟨h, rfl, H13_, S14_, hkk⟩
 refine cr fun _ hK15_ => ?_
 refine sv (v := (vB (decide ((k : Int) < ((List.length P) : Int))))) (x_bin rfl rfl rfl) ?_
 refine wn (hK15_ _ _ ?_)
 refine C_seq (fun _ hK16_ => ?_)
 refine C_cond (b := decide ((k : Int) < ((List.length P) : Int))) rfl (fun c17_t => ?_) (fun c17_f => ?_)
 ·have c17_tp : (k : Int) < ((List.length P) : Int) := of_decide_eq_true c17_t
  refine C_skip (X_then (hK16_ _ _ ?_))
  refine C_seq (fun _ hK18_ => ?_)
  refine C_block ?_
  refine cr fun _ hK19_ => ?_
  obtain ⟨x20_, hx21_, hm22_⟩ := elem_at P k (by omega)
  have hz1_ := hz x20_ hm22_
  refine sv (v := (vP (some ⟨(sb pv), so pv + (k * 6 + 0), none⟩))) (x_idxRS (v := pv) rfl hP rfl underlying73 z131 (by omega) (by omega) (by omega : _ = k) rfl) ?_
  refine sv (v := (vA #[(Value.string x20_.in__In_Begin), (Value.string x20_.in__In_End), (vB x20_.in__In_Point), (vI .i64 x20_.in__From), (vI .i64 x20_.in__Till), (vI .i64 x20_.val)])) (x_loadN (vs := [(Value.string x20_.in__In_Begin), (Value.string x20_.in__In_End), (vB x20_.in__In_Point), (vI .i64 x20_.in__From), (vI .i64 x20_.in__Till), (vI .i64 x20_.val)]) rfl underlying131 rfl z131 rfl (RC.cells (RS.rc hP) (Holds.ro_at H13_ 2 rfl) (k * 6 + 0) (fm_cells PN.len hx21_ (i := 0) rfl))) ?_
  refine S_list (T_alloc z131 H13_ ?_)
  intro b23_ w24_ S26_ H25_
  have S27_ := Same.trans S14_ S26_
  refine S_list0 (T_storeN (vs := [(Value.string x20_.in__In_Begin), (Value.string x20_.in__In_End), (vB x20_.in__In_Point), (vI .i64 x20_.in__From), (vI .i64 x20_.in__Till), (vI .i64 x20_.val)]) rfl rfl z131 rfl (by simp [Value.oneCell']) H25_ 0 rfl (Nat.le_of_ble_eq_true (by rfl)) ?_)
  intro w28_ S30_ H29_
  have S31_ := Same.trans S27_ S30_
  refine wn (hK19_ _ _ ?_)
  refine C_seq (fun _ hK32_ => ?_)
  refine A_start (S := fun w => Rd b23_ [(Value.string x20_.in__In_Begin), (Value.string x20_.in__In_End), (vB x20_.in__In_Point), (vI .i64 x20_.in__From), (vI .i64 x20_.in__Till), (vI .i64 x20_.val)] w ∧ SlRd cv ((List.filter (fun x => sMeet ord x.sn s) (List.take k P)).flatMap PN.cells) w ∧ Rd b2_ [(Value.string s.in__Begin), (Value.string s.in__End), (vB s.in__Point), (vI .i64 s.from_), (vI .i64 s.till)] w ∧ Rd pb [(vI .i64 ord), pv] w ∧ Sub R (hp w)) (N := 8) foll rfl rfl ?_
  have H33_ := Holds.drew_ H29_
  have hq34_ := And.intro (Holds.rd H33_ 0 rfl) (And.intro (Holds.slrd H33_ 1 rfl) (And.intro (Holds.rd H33_ 2 rfl) (And.intro (Holds.rd H33_ 4 rfl) ((Holds.ro_at H33_ 3 rfl)))))
  refine A_tk 0 (v := (vQ pb)) rfl (by kernel_rfl) (fun w hS => x_move rfl) hq34_ ?_
  refine A_tk 1 (v := (vQ pb)) rfl (by kernel_rfl) (fun w hS => by kernel_rfl) hq34_ ?_
  refine A_tk 2 (v := (vQ pb)) rfl (by kernel_rfl) (fun w hS => by kernel_rfl) hq34_ ?_
  refine A_tk 3 (v := (vI .i64 ord)) rfl (by kernel_rfl) (fun w hS => x_load1 rfl underlying3 rfl (hS.2.2.2.1 0 (vI .i64 ord) rfl)) hq34_ ?_
  refine A_tk 4 (v := (vQ b23_)) rfl (by kernel_rfl) (fun w hS => by kernel_rfl) hq34_ ?_
  refine A_tk 5 (v := (vA #[(Value.string x20_.in__In_Begin), (Value.string x20_.in__In_End), (vB x20_.in__In_Point), (vI .i64 x20_.in__From), (vI .i64 x20_.in__Till)])) rfl (by kernel_rfl) (fun w hS => x_loadN (vs := [(Value.string x20_.in__In_Begin), (Value.string x20_.in__In_End), (vB x20_.in__In_Point), (vI .i64 x20_.in__From), (vI .i64 x20_.in__Till)]) rfl underlying44 rfl z44 rfl (Rd.cells hS.1 0 rfl)) hq34_ ?_
  refine A_tk 6 (v := (vA #[(Value.string s.in__Begin), (Value.string s.in__End), (vB s.in__Point), (vI .i64 s.from_), (vI .i64 s.till)])) rfl (by kernel_rfl) (fun w hS => x_loadN (vs := [(Value.string s.in__Begin), (Value.string s.in__End), (vB s.in__Point), (vI .i64 s.from_), (vI .i64 s.till)]) rfl underlying44 rfl z44 rfl (Rd.cells hS.2.2.1 0 rfl)) hq34_ ?_
  refine A_ready (i := 7) (rs := []) (by kernel_rfl) ?_
  refine AllR.cons ?_ AllR.nil
  have H36_ := ((Holds.bring H33_ 3 rfl) :)
  refine A_op (ls' := #[true, true, true, true, true, true, true, true]) rfl (by kernel_rfl) (T_call (al := [(vI .i64 ord), (vA #[(Value.string x20_.sn.in__Begin), (Value.string x20_.sn.in__End), (vB x20_.sn.in__Point), (vI .i64 x20_.sn.from_), (vI .i64 x20_.sn.till)]), (vA #[(Value.string s.in__Begin), (Value.string s.in__End), (vB s.in__Point), (vI .i64 s.from_), (vI .i64 s.till)])]) (pre := []) rfl (lcons rfl (lcons (congrArg (fun l => vA (List.toArray l)) (lcons (congrArg Value.string ((by first | rfl | omega | (simp; done) | (simp; omega)) : x20_.in__In_Begin = x20_.sn.in__Begin)) (lcons (congrArg Value.string ((by first | rfl | omega | (simp; done) | (simp; omega)) : x20_.in__In_End = x20_.sn.in__End)) (lcons (congrArg vB ((by first | rfl | omega | (simp; done) | (simp; omega)) : x20_.in__In_Point = x20_.sn.in__Point)) (lcons (congrArg (vI .i64) ((by first | rfl | omega | (simp; done) | (simp; omega)) : x20_.in__From = x20_.sn.from_)) (lcons (congrArg (vI .i64) ((by first | rfl | omega | (simp; done) | (simp; omega)) : x20_.in__Till = x20_.sn.till)) rfl)))))) rfl)) cb64 (spMeet R ord x20_.sn s (hz1_) (hs)) H36_ ?_)
  rintro v35_ p40_ w37_ ⟨rfl, rfl⟩ S39_ H38_
  have S41_ := Same.trans (Same.trans S31_ (Same.drew _)) S39_
  refine ⟨⟨Holds.rd H38_ 1 rfl, Holds.slrd H38_ 2 rfl, Holds.rd H38_ 3 rfl, Holds.rd H38_ 4 rfl, (Holds.ro_at H38_ 0 rfl)⟩, ?_⟩
  refine A_done (by kernel_rfl) ?_
  refine (X_then (hK32_ _ _ ?_))
  refine C_cond (b := sMeet ord x20_.sn s) rfl (fun c42_t => ?_) (fun c42_f => ?_)
  ·skip
   refine C_reg ?_
   refine sv (v := cv) (x_move rfl) ?_
   refine sv (v := (vA #[(Value.string x20_.in__In_Begin), (Value.string x20_.in__In_End), (vB x20_.in__In_Point), (vI .i64 x20_.in__From), (vI .i64 x20_.in__Till), (vI .i64 x20_.val)])) (x_loadN (vs := [(Value.string x20_.in__In_Begin), (Value.string x20_.in__In_End), (vB x20_.in__In_Point), (vI .i64 x20_.in__From), (vI .i64 x20_.in__Till), (vI .i64 x20_.val)]) rfl underlying131 rfl z131 rfl (Rd.cells (Holds.rd H38_ 1 rfl) 0 rfl)) ?_
   refine S_list (T_new (obj := .cells #[(Value.string x20_.in__In_Begin), (Value.string x20_.in__In_End), (vB x20_.in__In_Point), (vI .i64 x20_.in__From), (vI .i64 x20_.in__Till), (vI .i64 x20_.val)] 131) (f := fun b__ => .slice (some ⟨b__, 0, none⟩) 1 1) (A := fun b__ => cl b__ 131 [(Value.string x20_.in__In_Begin), (Value.string x20_.in__In_End), (vB x20_.in__In_Point), (vI .i64 x20_.in__From), (vI .i64 x20_.in__Till), (vI .i64 x20_.val)]) (by kernel_rfl) (fun l h => h.alloc _ _) H38_ ?_)
   intro b43_ w44_ S46_ H45_
   have S47_ := Same.trans S41_ S46_
   refine S_list (T_append rfl rfl underlying73 z131 rfl (by decide) H45_ 3 rfl (Holds.cl_src H45_ 0 rfl underlying73 (by simp [Value.oneCell']) rfl) (by have h__ := List.length_filter_le (fun x => sMeet ord x.sn s) (List.take k P); rw [List.length_take] at h__; omega) ?_)
   intro v48_ w49_ S51_ H50_
   have S52_ := Same.trans S47_ S51_
   refine sv (v := v48_) (x_assign rfl) ?_
   refine wpList_nil (X_blkN (X_then (hK18_ _ _ ?_)))
   refine C_reg ?_
   refine sv (v := (vI .i64 ((k : Int) + 1))) (x_bin rfl rfl (ib_add (IntWalk.i64_in _ (by omega)))) ?_
   refine sm (vI .i64 ((k : Int) + 1)) ?_
   refine wpList_nil (X_then ?_)
   have H53_ := Holds.resl H50_ 3 rfl (by rw [filter_snoc hx21_]; simp [c42_t, PN.cells] : ((List.filter (fun x => sMeet ord x.sn s) (List.take k P)).flatMap PN.cells) ++ [(Value.string x20_.in__In_Begin), (Value.string x20_.in__In_End), (vB x20_.in__In_Point), (vI .i64 x20_.in__From), (vI .i64 x20_.in__Till), (vI .i64 x20_.val)] = (List.filter (fun x => sMeet ord x.sn s) (List.take (k + 1) P)).flatMap PN.cells) (by rw [filter_snoc hx21_]; simp [c42_t, PN.cells] : (List.length (List.filter (fun x => sMeet ord x.sn s) (List.take k P))) + 1 = (List.length (List.filter (fun x => sMeet ord x.sn s) (List.take (k + 1) P))))
   have H54_ := Holds.pkF H53_ [3, 3, 1, 2] 2
   exact ⟨⟨k + 1, v48_⟩, ⟨_, congrArg (fun e => mkA 31 e []) (ch (ch (ch (ch (ch (ch (ch rfl rfl) rfl) rfl) rfl) rfl) rfl) (congrArg (vI .i64) ((by first | rfl | omega | (simp; done) | (simp; omega)) : (k : Int) + 1 = ((k + 1 : Nat) : Int)))), H54_, S52_, (by first | assumption | omega | exact rfl)⟩, by first | omega | (dsimp only; omega) | (simp; omega)⟩
  ·skip
   refine C_skip (X_blkN (X_then (hK18_ _ _ ?_)))
   refine C_reg ?_
   refine sv (v := (vI .i64 ((k : Int) + 1))) (x_bin rfl rfl (ib_add (IntWalk.i64_in _ (by omega)))) ?_
   refine sm (vI .i64 ((k : Int) + 1)) ?_
   refine wpList_nil (X_then ?_)
   have H55_ := Holds.resl H38_ 2 rfl (by rw [filter_snoc hx21_]; simp [c42_f, PN.cells] : (List.filter (fun x => sMeet ord x.sn s) (List.take k P)).flatMap PN.cells = (List.filter (fun x => sMeet ord x.sn s) (List.take (k + 1) P)).flatMap PN.cells) (by rw [filter_snoc hx21_]; simp [c42_f, PN.cells] : (List.length (List.filter (fun x => sMeet ord x.sn s) (List.take k P))) = (List.length (List.filter (fun x => sMeet ord x.sn s) (List.take (k + 1) P))))
   have H56_ := Holds.pkF H55_ [2, 2, 0, 1] 1
   exact ⟨⟨k + 1, cv⟩, ⟨_, congrArg (fun e => mkA 31 e []) (ch (ch (ch (ch (ch (ch (ch rfl rfl) rfl) rfl) rfl) rfl) rfl) (congrArg (vI .i64) ((by first | rfl | omega | (simp; done) | (simp; omega)) : (k : Int) + 1 = ((k + 1 : Nat) : Int)))), H56_, S41_, (by first | assumption | omega | exact rfl)⟩, by first | omega | (dsimp only; omega) | (simp; omega)⟩
 ·have c17_fp : ¬ ((k : Int) < ((List.length P) : Int)) := of_decide_eq_false c17_f
  refine C_exit (X_thenX (X_thenX (X_blkHit ?_)))
  refine (X_then (hK8_ _ _ ?_))
  refine cr fun _ hK57_ => ?_
  refine sv (v := cv) (x_move rfl) ?_
  refine sv (v := cv) (x_assign rfl) ?_
  refine wn (hK57_ _ _ ?_)
  refine C_ret ?_
  refine R_any (v := cv) (run_results1 rfl rfl) ?_
  have H58_ := Holds.resl H13_ 0 rfl (by rw [List.take_of_length_le (by omega)] : (List.filter (fun x => sMeet ord x.sn s) (List.take k P)).flatMap PN.cells = (List.filter (fun x => sMeet ord x.sn s) P).flatMap PN.cells) (by rw [List.take_of_length_le (by omega)] : (List.length (List.filter (fun x => sMeet ord x.sn s) (List.take k P))) = (List.length (List.filter (fun x => sMeet ord x.sn s) P)))
  have H59_ := ((Holds.bring H58_ 2 rfl) :)
  obtain ⟨R60_, hs61_, ⟨R62_, ha63_, hs64_⟩, H65_⟩ := Holds.gift H59_
  have hr66_ : RS R60_ 6 cv (List.length (List.filter (fun x => sMeet ord x.sn s) P)) ((List.filter (fun x => sMeet ord x.sn s) P).flatMap PN.cells) := (sl_RS ha63_ (Sub.rfl' _)).mono hs64_
  have H67_ := Holds.pkF H65_ [0, 1] 1
  exact ⟨R60_, _, _, rfl, hs61_, ⟨cv, rfl, rfl, (hr66_)⟩, S14_, H67_⟩
end Go.Proofs.Ytlnihndjepjagaa
set_option linter.unusedVariables false
set_option linter.unusedSimpArgs false
namespace Go.Proofs.Ytlnihndjepjagaa
open Go Go.RowKit Gw Try
open Go.Value renaming int → vI, bool → vB, slice → vS, pointer → vP, agg → vA, tuple → vT

set_option maxHeartbeats 8000000 in
theorem spDo3 (R : HP) (ord : Int) (pb : Nat) (pv : Value) (P : List PN) (o : TO) (hP : RS R 6 pv (List.length P) (P.flatMap PN.cells)) (hz : PSz P) (hs : o.sn.in__Begin.size ≤ 2147483647) (hn : P.length ≤ 100000) (hk : o.kind = 3) :
    TriG Try.prog 59 #[(vQ pb), (vA #[(vI .i64 o.kind), (Value.string o.in__In_Begin), (Value.string o.in__In_End), (vB o.in__In_Point), (vI .i64 o.in__From), (vI .i64 o.in__Till), (vI .i64 o.val), (vI .i64 o.n), o.other, o.vals])] R [cl pb 75 [(vI .i64 ord), pv]] (fun R' v__ post__ => ∃ (a : TA), v__ = (vA #[(vB a.oK), (vI .i64 a.n), (vI .i64 a.most), a.list, a.vals]) ∧ post__ = [cl pb 75 [(vI .i64 ord), pv]] ∧ (AnsAt R' a (spFindX ord P o.sn))) := by
 refine TriG.into (n := 155) (al := [(vQ pb), (vA #[(vI .i64 o.kind), (Value.string o.in__In_Begin), (Value.string o.in__In_End), (vB o.in__In_Point), (vI .i64 o.in__From), (vI .i64 o.in__Till), (vI .i64 o.val), (vI .i64 o.n), o.other, o.vals])]) func59 rfl ntmps59 rfl rfl fun w F H => ?_
 refine cr fun _ hK1_ => ?_
 refine S_list (T_box (v := (vA #[(vI .i64 o.kind), (Value.string o.in__In_Begin), (Value.string o.in__In_End), (vB o.in__In_Point), (vI .i64 o.in__From), (vI .i64 o.in__Till), (vI .i64 o.val), (vI .i64 o.n), o.other, o.vals])) rfl H ?_)
 intro b2_ w3_ S5_ H4_
 have S6_ := Same.trans (Same.refl w) S5_
 refine S_list (T_alloc z59 H4_ ?_)
 intro b7_ w8_ S10_ H9_
 have S11_ := Same.trans S6_ S10_
 refine wn (hK1_ _ _ ?_)
 refine cr fun _ hK12_ => ?_
 refine sm (vQ pb) ?_
 refine sv (v := (vP (some ⟨b2_, 1, none⟩))) (by kernel_rfl) ?_
 refine sv (v := (vA #[(Value.string o.in__In_Begin), (Value.string o.in__In_End), (vB o.in__In_Point), (vI .i64 o.in__From), (vI .i64 o.in__Till)])) (x_loadN (vs := [(Value.string o.in__In_Begin), (Value.string o.in__In_End), (vB o.in__In_Point), (vI .i64 o.in__From), (vI .i64 o.in__Till)]) rfl underlying44 rfl z44 rfl (Rd.cells (Holds.rd H9_ 1 rfl) 1 rfl)) ?_
 have H20_ := ((Holds.bring (Holds.bring H9_ 3 rfl) 3 rfl) :)
 refine S_list (T_call (al := [(vQ pb), (vA #[(Value.string o.sn.in__Begin), (Value.string o.sn.in__End), (vB o.sn.in__Point), (vI .i64 o.sn.from_), (vI .i64 o.sn.till)])]) (pre := [cl pb 75 [(vI .i64 ord), pv]]) rfl (lcons rfl (lcons (congrArg (fun l => vA (List.toArray l)) (lcons (congrArg Value.string ((by first | rfl | omega | (simp; done) | (simp; omega)) : o.in__In_Begin = o.sn.in__Begin)) (lcons (congrArg Value.string ((by first | rfl | omega | (simp; done) | (simp; omega)) : o.in__In_End = o.sn.in__End)) (lcons (congrArg vB ((by first | rfl | omega | (simp; done) | (simp; omega)) : o.in__In_Point = o.sn.in__Point)) (lcons (congrArg (vI .i64) ((by first | rfl | omega | (simp; done) | (simp; omega)) : o.in__From = o.sn.from_)) (lcons (congrArg (vI .i64) ((by first | rfl | omega | (simp; done) | (simp; omega)) : o.in__Till = o.sn.till)) rfl)))))) rfl)) cb81 (spFind R ord pb pv P o.sn (hP) (hz) (hs) (hn)) H20_ ?_)
 rintro v13_ p24_ w21_ hq25_ S23_ H22_
 rcases hq25_ with ⟨rfl, rfl, he14_⟩ | ⟨k15_, x16_, rfl, rfl, he17_, he18_, he19_⟩
 ·skip
  have S26_ := Same.trans S11_ S23_
  have hX_ : spFindX ord P o.sn = ⟨false, 0, [], []⟩ := spFindX_none he14_
  refine sv (v := (vI .i64 (-1))) (x_assign rfl) ?_
  refine wn (hK12_ _ _ ?_)
  refine C_seq (fun _ hK28_ => ?_)
  refine cr fun _ hK29_ => ?_
  refine sv (v := (vQ b2_)) (by kernel_rfl) ?_
  refine sv (v := (vI .i64 o.kind)) (x_load1 rfl underlying3 rfl ((Holds.rd H22_ 3 rfl) 0 (vI .i64 o.kind) rfl)) ?_
  refine wn (hK29_ _ _ ?_)
  refine C_block ?_
  refine cr fun _ hK30_ => ?_
  refine sv (v := (vB (decide (o.kind = 1)))) (x_bin rfl rfl rfl) ?_
  refine sv (v := (vB (decide (o.kind = 1)))) (x_assign rfl) ?_
  refine wn (hK30_ _ _ ?_)
  refine C_cond (b := decide (o.kind = 1)) rfl (fun c31_t => ?_) (fun c31_f => ?_)
  ·have c31_tp : o.kind = 1 := of_decide_eq_true c31_t
   omega
  ·have c31_fp : ¬ (o.kind = 1) := of_decide_eq_false c31_f
   refine cr fun _ hK32_ => ?_
   refine sv (v := (vB (decide (o.kind = 2)))) (x_bin rfl rfl rfl) ?_
   refine sv (v := (vB (decide (o.kind = 2)))) (x_assign rfl) ?_
   refine wn (hK32_ _ _ ?_)
   refine C_cond (b := decide (o.kind = 2)) rfl (fun c33_t => ?_) (fun c33_f => ?_)
   ·have c33_tp : o.kind = 2 := of_decide_eq_true c33_t
    omega
   ·have c33_fp : ¬ (o.kind = 2) := of_decide_eq_false c33_f
    refine cr fun _ hK34_ => ?_
    refine sv (v := (vB (decide (o.kind = 3)))) (x_bin rfl rfl rfl) ?_
    refine sv (v := (vB (decide (o.kind = 3)))) (x_assign rfl) ?_
    refine wn (hK34_ _ _ ?_)
    refine C_cond (b := decide (o.kind = 3)) rfl (fun c35_t => ?_) (fun c35_f => ?_)
    ·have c35_tp : o.kind = 3 := of_decide_eq_true c35_t
     refine cr fun _ hK36_ => ?_
     refine sm (vI .i64 (-1)) ?_
     refine sv (v := (vB false)) (x_bin rfl rfl rfl) ?_
     refine wn (hK36_ _ _ ?_)
     refine C_condF rfl ?_
     refine C_skip (X_blkN (X_then (hK28_ _ _ ?_)))
     refine cr fun _ hK37_ => ?_
     refine sv (v := (vA #[(vB false), (vI .i64 0), (vI .i64 0), (vS none 0 0), (vS none 0 0)])) (by kernel_rfl) ?_
     refine S_list0 (T_storeN (vs := [(vB false), (vI .i64 0), (vI .i64 0), (vS none 0 0), (vS none 0 0)]) rfl rfl z59 rfl (by simp [Value.oneCell']) H22_ 2 rfl (Nat.le_of_ble_eq_true (by rfl)) ?_)
     intro w38_ S40_ H39_
     have S41_ := Same.trans S26_ S40_
     refine wn (hK37_ _ _ ?_)
     refine C_ret ?_
     refine R_any (v := (vA #[(vB false), (vI .i64 0), (vI .i64 0), (vS none 0 0), (vS none 0 0)])) (run_results1 rfl ⟨_, rfl, load_resN underlying59 rfl z59 rfl (vs := [(vB false), (vI .i64 0), (vI .i64 0), (vS none 0 0), (vS none 0 0)]) (Holds.cl_cells H39_ 2 rfl 0 rfl)⟩) ?_
     have H42_ := Holds.pkF H39_ [0, 0] 2
     exact ⟨R, _, _, rfl, (Sub.rfl' _), ⟨(⟨false, 0, 0, (vS none 0 0), (vS none 0 0)⟩ : TA), (congrArg (fun l => vA (List.toArray l)) (lcons (congrArg vB ((by first | rfl | omega | (simp; done) | (simp; omega)) : false = ((⟨false, 0, 0, (vS none 0 0), (vS none 0 0)⟩ : TA).oK))) (lcons (congrArg (vI .i64) ((by first | rfl | omega | (simp; done) | (simp; omega)) : 0 = (⟨false, 0, 0, (vS none 0 0), (vS none 0 0)⟩ : TA).n)) (lcons (congrArg (vI .i64) ((by first | rfl | omega | (simp; done) | (simp; omega)) : 0 = (⟨false, 0, 0, (vS none 0 0), (vS none 0 0)⟩ : TA).most)) (lcons ((by first | rfl | omega | (simp; done) | (simp; omega)) : (vS none 0 0) = ((⟨false, 0, 0, (vS none 0 0), (vS none 0 0)⟩ : TA).list)) (lcons ((by first | rfl | omega | (simp; done) | (simp; omega)) : (vS none 0 0) = ((⟨false, 0, 0, (vS none 0 0), (vS none 0 0)⟩ : TA).vals)) rfl)))))), rfl, (by rw [hX_]; exact ⟨rfl, rfl, RS.nil _ _, RS.nil _ _⟩)⟩, S41_, H42_⟩
    ·have c35_fp : ¬ (o.kind = 3) := of_decide_eq_false c35_f
     omega
 ·skip
  have S27_ := Same.trans S11_ S23_
  have hlt_ := (List.getElem?_eq_some_iff.1 he17_).1
  have hX_ : spFindX ord P o.sn = ⟨true, 0, [x16_.sn], [x16_.val]⟩ := spFindX_some he17_ he18_ he19_
  refine sv (v := (vI .i64 (k15_ : Int))) (x_assign rfl) ?_
  refine wn (hK12_ _ _ ?_)
  refine C_seq (fun _ hK43_ => ?_)
  refine cr fun _ hK44_ => ?_
  refine sv (v := (vQ b2_)) (by kernel_rfl) ?_
  refine sv (v := (vI .i64 o.kind)) (x_load1 rfl underlying3 rfl ((Holds.rd H22_ 3 rfl) 0 (vI .i64 o.kind) rfl)) ?_
  refine wn (hK44_ _ _ ?_)
  refine C_block ?_
  refine cr fun _ hK45_ => ?_
  refine sv (v := (vB (decide (o.kind = 1)))) (x_bin rfl rfl rfl) ?_
  refine sv (v := (vB (decide (o.kind = 1)))) (x_assign rfl) ?_
  refine wn (hK45_ _ _ ?_)
  refine C_cond (b := decide (o.kind = 1)) rfl (fun c46_t => ?_) (fun c46_f => ?_)
  ·have c46_tp : o.kind = 1 := of_decide_eq_true c46_t
   omega
  ·have c46_fp : ¬ (o.kind = 1) := of_decide_eq_false c46_f
   refine cr fun _ hK47_ => ?_
   refine sv (v := (vB (decide (o.kind = 2)))) (x_bin rfl rfl rfl) ?_
   refine sv (v := (vB (decide (o.kind = 2)))) (x_assign rfl) ?_
   refine wn (hK47_ _ _ ?_)
   refine C_cond (b := decide (o.kind = 2)) rfl (fun c48_t => ?_) (fun c48_f => ?_)
   ·have c48_tp : o.kind = 2 := of_decide_eq_true c48_t
    omega
   ·have c48_fp : ¬ (o.kind = 2) := of_decide_eq_false c48_f
    refine cr fun _ hK49_ => ?_
    refine sv (v := (vB (decide (o.kind = 3)))) (x_bin rfl rfl rfl) ?_
    refine sv (v := (vB (decide (o.kind = 3)))) (x_assign rfl) ?_
    refine wn (hK49_ _ _ ?_)
    refine C_cond (b := decide (o.kind = 3)) rfl (fun c50_t => ?_) (fun c50_f => ?_)
    ·have c50_tp : o.kind = 3 := of_decide_eq_true c50_t
     refine cr fun _ hK51_ => ?_
     refine sm (vI .i64 (k15_ : Int)) ?_
     refine sv (v := (vB (decide (0 ≤ (k15_ : Int))))) (x_bin rfl rfl rfl) ?_
     refine wn (hK51_ _ _ ?_)
     refine C_cond (b := decide (0 ≤ (k15_ : Int))) rfl (fun c52_t => ?_) (fun c52_f => ?_)
     ·have c52_tp : 0 ≤ (k15_ : Int) := of_decide_eq_true c52_t
      refine C_seq (fun _ hK53_ => ?_)
      refine A_start (S := fun w => Rd pb [(vI .i64 ord), pv] w ∧ Sub R (hp w)) (N := 20) foll rfl rfl ?_
      have H54_ := Holds.drew_ H22_
      have hq55_ := And.intro (Holds.rd H54_ 1 rfl) ((Holds.ro_at H54_ 0 rfl))
      refine A_tk 0 (v := (vQ pb)) rfl (by kernel_rfl) (fun w hS => x_move rfl) hq55_ ?_
      refine A_tk 1 (v := (vQ pb)) rfl (by kernel_rfl) (fun w hS => by kernel_rfl) hq55_ ?_
      refine A_tk 2 (v := (vP (some ⟨pb, 1, none⟩))) rfl (by kernel_rfl) (fun w hS => by kernel_rfl) hq55_ ?_
      refine A_tk 3 (v := pv) rfl (by kernel_rfl) (fun w hS => x_load1 rfl underlying73 rfl (hS.1 1 pv rfl)) hq55_ ?_
      refine A_tk 4 (v := (vI .i64 (k15_ : Int))) rfl (by kernel_rfl) (fun w hS => x_move rfl) hq55_ ?_
      refine A_tk 5 (v := (vP (some ⟨(sb pv), so pv + (k15_ * 6 + 0), none⟩))) rfl (by kernel_rfl) (fun w hS => x_idxRS (v := pv) rfl hP rfl underlying73 z131 (by omega) (by omega) (by omega : _ = k15_) rfl) hq55_ ?_
      refine A_tk 6 (v := (vP (some ⟨(sb pv), so pv + (k15_ * 6 + 0), none⟩))) rfl (by kernel_rfl) (fun w hS => by kernel_rfl) hq55_ ?_
      refine A_tk 7 (v := (vA #[(Value.string x16_.in__In_Begin), (Value.string x16_.in__In_End), (vB x16_.in__In_Point), (vI .i64 x16_.in__From), (vI .i64 x16_.in__Till)])) rfl (by kernel_rfl) (fun w hS => x_loadN (vs := [(Value.string x16_.in__In_Begin), (Value.string x16_.in__In_End), (vB x16_.in__In_Point), (vI .i64 x16_.in__From), (vI .i64 x16_.in__Till)]) rfl underlying44 rfl z44 rfl (RC.cells (RS.rc hP) hS.2 (k15_ * 6 + 0) (fm_cells PN.len he17_ (i := 0) rfl))) hq55_ ?_
      refine A_tk 9 (v := (vQ pb)) rfl (by kernel_rfl) (fun w hS => x_move rfl) hq55_ ?_
      refine A_tk 10 (v := (vQ pb)) rfl (by kernel_rfl) (fun w hS => by kernel_rfl) hq55_ ?_
      refine A_tk 11 (v := (vP (some ⟨pb, 1, none⟩))) rfl (by kernel_rfl) (fun w hS => by kernel_rfl) hq55_ ?_
      refine A_tk 12 (v := pv) rfl (by kernel_rfl) (fun w hS => x_load1 rfl underlying73 rfl (hS.1 1 pv rfl)) hq55_ ?_
      refine A_tk 13 (v := (vI .i64 (k15_ : Int))) rfl (by kernel_rfl) (fun w hS => x_move rfl) hq55_ ?_
      refine A_tk 14 (v := (vP (some ⟨(sb pv), so pv + (k15_ * 6 + 0), none⟩))) rfl (by kernel_rfl) (fun w hS => x_idxRS (v := pv) rfl hP rfl underlying73 z131 (by omega) (by omega) (by omega : _ = k15_) rfl) hq55_ ?_
      refine A_tk 15 (v := (vP (some ⟨(sb pv), so pv + (k15_ * 6 + 5), none⟩))) rfl (by kernel_rfl) (fun w hS => by kernel_rfl) hq55_ ?_
      refine A_tk 16 (v := (vI .i64 x16_.val)) rfl (by kernel_rfl) (fun w hS => x_load1 rfl underlying3 rfl (RC.cell (RS.rc hP) hS.2 (j := k15_ * 6 + 5) (u := (vI .i64 x16_.val)) (fm_cell PN.len he17_ (i := 5) rfl))) hq55_ ?_
      refine A_ready (i := 8) (rs := [17]) (by kernel_rfl) ?_
      refine AllR.cons ?_ ?_
      ·skip
       refine A_op (ls' := #[true, true, true, true, true, true, true, true, true, true, true, true, true, true, true, true, true, false, false, false]) rfl (by kernel_rfl) (T_new (obj := .cells #[(Value.string x16_.in__In_Begin), (Value.string x16_.in__In_End), (vB x16_.in__In_Point), (vI .i64 x16_.in__From), (vI .i64 x16_.in__Till)] 44) (f := fun b__ => .slice (some ⟨b__, 0, none⟩) 1 1) (A := fun b__ => cl b__ 44 [(Value.string x16_.in__In_Begin), (Value.string x16_.in__In_End), (vB x16_.in__In_Point), (vI .i64 x16_.in__From), (vI .i64 x16_.in__Till)]) (by kernel_rfl) (fun l h => h.alloc _ _) H54_ ?_)
       intro b59_ w60_ S62_ H61_
       have S63_ := Same.trans (Same.trans S27_ (Same.drew _)) S62_
       refine ⟨⟨Holds.rd H61_ 2 rfl, (Holds.ro_at H61_ 1 rfl)⟩, ?_⟩
       refine A_ready (i := 17) (rs := []) (by kernel_rfl) ?_
       refine AllR.cons ?_ AllR.nil
       refine A_op (ls' := #[true, true, true, true, true, true, true, true, true, true, true, true, true, true, true, true, true, true, false, false]) rfl (by kernel_rfl) (T_new (obj := .cells #[(vI .i64 x16_.val)] 3) (f := fun b__ => .slice (some ⟨b__, 0, none⟩) 1 1) (A := fun b__ => cl b__ 3 [(vI .i64 x16_.val)]) (by kernel_rfl) (fun l h => h.alloc _ _) H61_ ?_)
       intro b64_ w65_ S67_ H66_
       have S68_ := Same.trans S63_ S67_
       refine ⟨⟨Holds.rd H66_ 3 rfl, (Holds.ro_at H66_ 2 rfl)⟩, ?_⟩
       have hq69_ := And.intro (Holds.rd H66_ 3 rfl) ((Holds.ro_at H66_ 2 rfl))
       refine A_tk 18 (v := (vA #[(vB true), (vI .i64 0), (vI .i64 0), (vS (some ⟨b59_, 0, none⟩) 1 1), (vS (some ⟨b64_, 0, none⟩) 1 1)])) rfl (by kernel_rfl) (fun w hS => by kernel_rfl) hq69_ ?_
       refine A_ready (i := 19) (rs := []) (by kernel_rfl) ?_
       refine AllR.cons ?_ AllR.nil
       refine A_op0 (ls' := #[true, true, true, true, true, true, true, true, true, true, true, true, true, true, true, true, true, true, true, true]) rfl (by kernel_rfl) (T_storeN (vs := [(vB true), (vI .i64 0), (vI .i64 0), (vS (some ⟨b59_, 0, none⟩) 1 1), (vS (some ⟨b64_, 0, none⟩) 1 1)]) rfl rfl z59 rfl (by simp [Value.oneCell']) H66_ 4 rfl (Nat.le_of_ble_eq_true (by rfl)) ?_)
       intro w70_ S72_ H71_
       have S73_ := Same.trans S68_ S72_
       refine ⟨⟨Holds.rd H71_ 3 rfl, (Holds.ro_at H71_ 2 rfl)⟩, ?_⟩
       refine A_done (by kernel_rfl) ?_
       refine (X_then (hK53_ _ _ ?_))
       refine C_ret (X_blkR (X_thenR ?_))
       refine R_any (v := (vA #[(vB true), (vI .i64 0), (vI .i64 0), (vS (some ⟨b59_, 0, none⟩) 1 1), (vS (some ⟨b64_, 0, none⟩) 1 1)])) (run_results1 rfl ⟨_, rfl, load_resN underlying59 rfl z59 rfl (vs := [(vB true), (vI .i64 0), (vI .i64 0), (vS (some ⟨b59_, 0, none⟩) 1 1), (vS (some ⟨b64_, 0, none⟩) 1 1)]) (Holds.cl_cells H71_ 4 rfl 0 rfl)⟩) ?_
       have H74_ := ((Holds.bring (Holds.bring H71_ 1 rfl) 2 rfl) :)
       obtain ⟨R75_, hs76_, ⟨R77_, ha78_, hs79_⟩, H80_⟩ := Holds.gift H74_
       have hr81_ : RS R75_ 5 (vS (some ⟨b59_, 0, none⟩) 1 1) 1 ([x16_.sn].flatMap SN.cells) := (RS.set_ (cl_RSn (sz := 5) ha78_ (Sub.rfl' _) (by rfl) (by omega)) rfl rfl).mono hs79_
       obtain ⟨R82_, hs83_, ⟨R84_, ha85_, hs86_⟩, H87_⟩ := Holds.gift H80_
       have hz_R_R82_ := Sub.trans' hs76_ hs83_
       have hr88_ : RS R82_ 1 (vS (some ⟨b64_, 0, none⟩) 1 1) 1 ([x16_.val].map (vI .i64)) := (RS.set_ (cl_RSn (sz := 1) ha85_ (Sub.rfl' _) (by rfl) (by omega)) rfl rfl).mono hs86_
       have H89_ := Holds.pkF H87_ [0, 0] 2
       exact ⟨R82_, _, _, rfl, hz_R_R82_, ⟨(⟨true, 0, 0, (vS (some ⟨b59_, 0, none⟩) 1 1), (vS (some ⟨b64_, 0, none⟩) 1 1)⟩ : TA), (congrArg (fun l => vA (List.toArray l)) (lcons (congrArg vB ((by first | rfl | omega | (simp; done) | (simp; omega)) : true = ((⟨true, 0, 0, (vS (some ⟨b59_, 0, none⟩) 1 1), (vS (some ⟨b64_, 0, none⟩) 1 1)⟩ : TA).oK))) (lcons (congrArg (vI .i64) ((by first | rfl | omega | (simp; done) | (simp; omega)) : 0 = (⟨true, 0, 0, (vS (some ⟨b59_, 0, none⟩) 1 1), (vS (some ⟨b64_, 0, none⟩) 1 1)⟩ : TA).n)) (lcons (congrArg (vI .i64) ((by first | rfl | omega | (simp; done) | (simp; omega)) : 0 = (⟨true, 0, 0, (vS (some ⟨b59_, 0, none⟩) 1 1), (vS (some ⟨b64_, 0, none⟩) 1 1)⟩ : TA).most)) (lcons ((by first | rfl | omega | (simp; done) | (simp; omega)) : (vS (some ⟨b59_, 0, none⟩) 1 1) = ((⟨true, 0, 0, (vS (some ⟨b59_, 0, none⟩) 1 1), (vS (some ⟨b64_, 0, none⟩) 1 1)⟩ : TA).list)) (lcons ((by first | rfl | omega | (simp; done) | (simp; omega)) : (vS (some ⟨b64_, 0, none⟩) 1 1) = ((⟨true, 0, 0, (vS (some ⟨b59_, 0, none⟩) 1 1), (vS (some ⟨b64_, 0, none⟩) 1 1)⟩ : TA).vals)) rfl)))))), rfl, (by rw [hX_]; exact ⟨rfl, rfl, (RS.mono hr81_ hs83_), hr88_⟩)⟩, S73_, H89_⟩
      refine AllR.cons ?_ AllR.nil
      refine A_op (ls' := #[true, true, true, true, true, true, true, true, false, true, true, true, true, true, true, true, true, true, false, false]) rfl (by kernel_rfl) (T_new (obj := .cells #[(vI .i64 x16_.val)] 3) (f := fun b__ => .slice (some ⟨b__, 0, none⟩) 1 1) (A := fun b__ => cl b__ 3 [(vI .i64 x16_.val)]) (by kernel_rfl) (fun l h => h.alloc _ _) H54_ ?_)
      intro b90_ w91_ S93_ H92_
      have S94_ := Same.trans (Same.trans S27_ (Same.drew _)) S93_
      refine ⟨⟨Holds.rd H92_ 2 rfl, (Holds.ro_at H92_ 1 rfl)⟩, ?_⟩
      refine A_ready (i := 8) (rs := []) (by kernel_rfl) ?_
      refine AllR.cons ?_ AllR.nil
      refine A_op (ls' := #[true, true, true, true, true, true, true, true, true, true, true, true, true, true, true, true, true, true, false, false]) rfl (by kernel_rfl) (T_new (obj := .cells #[(Value.string x16_.in__In_Begin), (Value.string x16_.in__In_End), (vB x16_.in__In_Point), (vI .i64 x16_.in__From), (vI .i64 x16_.in__Till)] 44) (f := fun b__ => .slice (some ⟨b__, 0, none⟩) 1 1) (A := fun b__ => cl b__ 44 [(Value.string x16_.in__In_Begin), (Value.string x16_.in__In_End), (vB x16_.in__In_Point), (vI .i64 x16_.in__From), (vI .i64 x16_.in__Till)]) (by kernel_rfl) (fun l h => h.alloc _ _) H92_ ?_)
      intro b95_ w96_ S98_ H97_
      have S99_ := Same.trans S94_ S98_
      refine ⟨⟨Holds.rd H97_ 3 rfl, (Holds.ro_at H97_ 2 rfl)⟩, ?_⟩
      have hq100_ := And.intro (Holds.rd H97_ 3 rfl) ((Holds.ro_at H97_ 2 rfl))
      refine A_tk 18 (v := (vA #[(vB true), (vI .i64 0), (vI .i64 0), (vS (some ⟨b95_, 0, none⟩) 1 1), (vS (some ⟨b90_, 0, none⟩) 1 1)])) rfl (by kernel_rfl) (fun w hS => by kernel_rfl) hq100_ ?_
      refine A_ready (i := 19) (rs := []) (by kernel_rfl) ?_
      refine AllR.cons ?_ AllR.nil
      refine A_op0 (ls' := #[true, true, true, true, true, true, true, true, true, true, true, true, true, true, true, true, true, true, true, true]) rfl (by kernel_rfl) (T_storeN (vs := [(vB true), (vI .i64 0), (vI .i64 0), (vS (some ⟨b95_, 0, none⟩) 1 1), (vS (some ⟨b90_, 0, none⟩) 1 1)]) rfl rfl z59 rfl (by simp [Value.oneCell']) H97_ 4 rfl (Nat.le_of_ble_eq_true (by rfl)) ?_)
      intro w101_ S103_ H102_
      have S104_ := Same.trans S99_ S103_
      refine ⟨⟨Holds.rd H102_ 3 rfl, (Holds.ro_at H102_ 2 rfl)⟩, ?_⟩
      refine A_done (by kernel_rfl) ?_
      refine (X_then (hK53_ _ _ ?_))
      refine C_ret (X_blkR (X_thenR ?_))
      refine R_any (v := (vA #[(vB true), (vI .i64 0), (vI .i64 0), (vS (some ⟨b95_, 0, none⟩) 1 1), (vS (some ⟨b90_, 0, none⟩) 1 1)])) (run_results1 rfl ⟨_, rfl, load_resN underlying59 rfl z59 rfl (vs := [(vB true), (vI .i64 0), (vI .i64 0), (vS (some ⟨b95_, 0, none⟩) 1 1), (vS (some ⟨b90_, 0, none⟩) 1 1)]) (Holds.cl_cells H102_ 4 rfl 0 rfl)⟩) ?_
      have H105_ := ((Holds.bring H102_ 2 rfl) :)
      obtain ⟨R106_, hs107_, ⟨R108_, ha109_, hs110_⟩, H111_⟩ := Holds.gift H105_
      have hr112_ : RS R106_ 5 (vS (some ⟨b95_, 0, none⟩) 1 1) 1 ([x16_.sn].flatMap SN.cells) := (RS.set_ (cl_RSn (sz := 5) ha109_ (Sub.rfl' _) (by rfl) (by omega)) rfl rfl).mono hs110_
      obtain ⟨R113_, hs114_, ⟨R115_, ha116_, hs117_⟩, H118_⟩ := Holds.gift H111_
      have hz_R_R113_ := Sub.trans' hs107_ hs114_
      have hr119_ : RS R113_ 1 (vS (some ⟨b90_, 0, none⟩) 1 1) 1 ([x16_.val].map (vI .i64)) := (RS.set_ (cl_RSn (sz := 1) ha116_ (Sub.rfl' _) (by rfl) (by omega)) rfl rfl).mono hs117_
      have H120_ := Holds.pkF H118_ [0, 0] 2
      exact ⟨R113_, _, _, rfl, hz_R_R113_, ⟨(⟨true, 0, 0, (vS (some ⟨b95_, 0, none⟩) 1 1), (vS (some ⟨b90_, 0, none⟩) 1 1)⟩ : TA), (congrArg (fun l => vA (List.toArray l)) (lcons (congrArg vB ((by first | rfl | omega | (simp; done) | (simp; omega)) : true = ((⟨true, 0, 0, (vS (some ⟨b95_, 0, none⟩) 1 1), (vS (some ⟨b90_, 0, none⟩) 1 1)⟩ : TA).oK))) (lcons (congrArg (vI .i64) ((by first | rfl | omega | (simp; done) | (simp; omega)) : 0 = (⟨true, 0, 0, (vS (some ⟨b95_, 0, none⟩) 1 1), (vS (some ⟨b90_, 0, none⟩) 1 1)⟩ : TA).n)) (lcons (congrArg (vI .i64) ((by first | rfl | omega | (simp; done) | (simp; omega)) : 0 = (⟨true, 0, 0, (vS (some ⟨b95_, 0, none⟩) 1 1), (vS (some ⟨b90_, 0, none⟩) 1 1)⟩ : TA).most)) (lcons ((by first | rfl | omega | (simp; done) | (simp; omega)) : (vS (some ⟨b95_, 0, none⟩) 1 1) = ((⟨true, 0, 0, (vS (some ⟨b95_, 0, none⟩) 1 1), (vS (some ⟨b90_, 0, none⟩) 1 1)⟩ : TA).list)) (lcons ((by first | rfl | omega | (simp; done) | (simp; omega)) : (vS (some ⟨b90_, 0, none⟩) 1 1) = ((⟨true, 0, 0, (vS (some ⟨b95_, 0, none⟩) 1 1), (vS (some ⟨b90_, 0, none⟩) 1 1)⟩ : TA).vals)) rfl)))))), rfl, (by rw [hX_]; exact ⟨rfl, rfl, (RS.mono hr112_ hs114_), hr119_⟩)⟩, S104_, H120_⟩
     ·have c52_fp : ¬ (0 ≤ (k15_ : Int)) := of_decide_eq_false c52_f
      omega
    ·have c50_fp : ¬ (o.kind = 3) := of_decide_eq_false c50_f
     omega
end Go.Proofs.Ytlnihndjepjagaa
set_option linter.unusedVariables false
set_option linter.unusedSimpArgs false
namespace Go.Proofs.Ytlnihndjepjagaa
open Go Go.RowKit Gw Try
open Go.Value renaming int → vI, bool → vB, slice → vS, pointer → vP, agg → vA, tuple → vT

def spanB (ord : Int) (s : SN) : Bool := sProper ord s && (decide (ord ≠ 3) || ((!s.in__Point && decide (-2305843009213693952 ≤ s.from_)) && decide (s.till ≤ 2305843009213693952)))
theorem spanB_prp {ord : Int} {s : SN} (h : spanB ord s = true) : ecm ord (s.lo ord) (s.hi ord) < 0 := by
  unfold spanB sProper at h
  rw [Bool.and_eq_true, decide_eq_true_eq] at h
  exact h.1
theorem spanB_ok {ord : Int} {s : SN} (h : spanB ord s = true) (ho : 0 ≤ ord ∧ ord ≤ 3) (hb : s.in__Begin.size ≤ 2147483647) (he : s.in__End.size ≤ 2147483647) : SnOk ord s := by
  have hp := spanB_prp h
  refine ⟨ho, hb, he, fun h3 => ?_⟩
  subst h3
  rw [lo_num, hi_num] at hp
  have hlt : s.from_ < s.till := by
    simp only [ecm] at hp
    split at hp
    · assumption
    · split at hp <;> omega
  unfold spanB at h
  simp at h
  obtain ⟨_, ⟨h1, h2⟩, h3⟩ := h
  exact ⟨h1, h2, by omega, by omega, h3⟩
def SSz (s : SN) : Prop := s.in__Begin.size ≤ 2147483647 ∧ s.in__End.size ≤ 2147483647
structure Fil (ord : Int) (O : List TX) (P : List PN) : Prop where
  t : tdoAll ord O = P.map (PN.ie ord)
  len : O.length = P.length
  o : ∀ x ∈ O, x.q.kind = 1 ∧ spanB ord x.q.sn = true ∧ SSz x.q.sn
  u : UniqK (P.map (PN.ie ord))
  p : PrpK ord (P.map (PN.ie ord))
  z : PSz P
  n : ∀ x ∈ O, x.q.other = .slice none 0 0 ∧ x.q.vals = .slice none 0 0
theorem Fil.nil (ord : Int) : Fil ord [] [] := ⟨rfl, rfl, (fun x h => by cases h), (fun e h => by cases h), (fun e h => by cases h), (fun x h => by cases h), (fun x h => by cases h)⟩
theorem spFindX_ok {ord : Int} {P : List PN} {s : SN} (h : (spFindX ord P s).ok = false) : ∀ x ∈ P, sSame ord x.sn s = false := by
  unfold spFindX at h
  intro x hx
  cases hf : P.find? (fun x => sSame ord x.sn s) with
  | none =>
    have := List.find?_eq_none.1 hf x hx
    simpa using this
  | some y => rw [hf] at h; cases h
def insOp (s : SN) (v : Int) : TX := ⟨⟨1, s.in__Begin, s.in__End, s.in__Point, s.from_, s.till, v, 0, .slice none 0 0, .slice none 0 0⟩, [], []⟩
theorem Fil.snoc {ord : Int} {O : List TX} {P : List PN} {s : SN} {v : Int} (h : Fil ord O P) (hb : spanB ord s = true) (hz : SSz s) (hno : ∀ x ∈ P, sSame ord x.sn s = false) : Fil ord (O ++ [insOp s v]) (putP ord s v P) := by
  have hM : (putP ord s v P).map (PN.ie ord) = insK ord ⟨s.lo ord, s.hi ord, v⟩ (P.map (PN.ie ord)) := putP_ie P
  have hnew : ∀ e ∈ P.map (PN.ie ord), ¬ (e.lo = s.lo ord ∧ e.hi = s.hi ord) := by
    intro e he hk
    obtain ⟨x, hx, rfl⟩ := List.mem_map.1 he
    have h1 := hno x hx
    have h2 : sSame ord x.sn s = true := sSame_iff.2 hk
    rw [h1] at h2
    cases h2
  refine ⟨?_, ?_, ?_, ?_, ?_, ?_, ?_⟩
  · rw [hM]
    unfold tdoAll
    rw [List.foldl_append]
    show tdoM ord (tdoAll ord O) (insOp s v) = _
    rw [h.t]
    rfl
  · have := congrArg List.length hM
    rw [List.length_map, insK_len, List.length_map] at this
    rw [List.length_append, h.len, this]; rfl
  · intro x hx
    rcases List.mem_append.1 hx with hx | hx
    · exact h.o x hx
    · rw [List.mem_singleton.1 hx]
      exact ⟨rfl, hb, hz⟩
  · rw [hM]
    intro e he e' he' h1 h2
    rw [insK_mem] at he he'
    rcases he with rfl | he <;> rcases he' with rfl | he'
    · rfl
    · exact absurd ⟨h1.symm, h2.symm⟩ (hnew e' he')
    · exact absurd ⟨h1, h2⟩ (hnew e he)
    · exact h.u e he e' he' h1 h2
  · rw [hM]
    intro e he
    rw [insK_mem] at he
    rcases he with rfl | he
    · exact spanB_prp hb
    · exact h.p e he
  · intro x hx
    rw [putP_mem] at hx
    rcases hx with rfl | hx
    · show s.plain.in__Begin.size ≤ _
      unfold SN.plain
      split
      · exact hz.1
      · exact hz.1
    · exact h.z x hx
  · intro x hx
    rcases List.mem_append.1 hx with hx | hx
    · exact h.n x hx
    · rw [List.mem_singleton.1 hx]
      exact ⟨rfl, rfl⟩
theorem tdo_len {ord : Int} : ∀ (l : List TX) (M : List IE), (∀ x ∈ l, x.q.kind = 1) → (l.foldl (tdoM ord) M).length = M.length + l.length
  | [], M, _ => rfl
  | x :: l, M, h => by
    show (l.foldl (tdoM ord) (tdoM ord M x)).length = _
    rw [tdo_len l _ (fun y hy => h y (by simp [hy]))]
    unfold tdoM
    rw [if_pos (h x (by simp)), insK_len, List.length_cons]; omega
theorem Fil.op {ord : Int} {R : HP} {O : List TX} {P : List PN} (h : Fil ord O P) (ho : 0 ≤ ord ∧ ord ≤ 3) (hl : O.length ≤ 100000) : ∀ k x, O[k]? = some x → OpOk ord R (tdoAll ord (O.take k)) x := by
  intro k x hx
  have hm := List.mem_of_getElem? hx
  obtain ⟨h1, h2, h3⟩ := h.o x hm
  have hlen : (tdoAll ord (O.take k)).length ≤ 10000000 := by
    unfold tdoAll
    rw [tdo_len _ _ (fun y hy => (h.o y (List.mem_of_mem_take hy)).1), List.length_take]
    simp
    omega
  exact ⟨.inl h1, spanB_ok h2 ho h3.1 h3.2, hlen, fun e => by omega, fun e => by omega, fun e => by omega⟩


set_option maxHeartbeats 1600000 in
theorem lwSpan (R : HP) (ord : Int) (s : SN) (hs : s.in__Begin.size ≤ 2147483647) :
    Tri Try.prog 60 #[(vI .i64 ord), (vA #[(Value.string s.in__Begin), (Value.string s.in__End), (vB s.in__Point), (vI .i64 s.from_), (vI .i64 s.till)])] R [] (fun v__ post__ => v__ = (vB (spanB ord s)) ∧ post__ = []) := by
 refine Tri.into (n := 28) (al := [(vI .i64 ord), (vA #[(Value.string s.in__Begin), (Value.string s.in__End), (vB s.in__Point), (vI .i64 s.from_), (vI .i64 s.till)])]) func60 rfl ntmps60 rfl rfl fun w F H => ?_
 refine cr fun _ hK1_ => ?_
 refine S_list (T_box (v := (vA #[(Value.string s.in__Begin), (Value.string s.in__End), (vB s.in__Point), (vI .i64 s.from_), (vI .i64 s.till)])) rfl H ?_)
 intro b2_ w3_ S5_ H4_
 have S6_ := Same.trans (Same.refl w) S5_
 refine sv (v := (vB false)) (x_assign rfl) ?_
 refine wn (hK1_ _ _ ?_)
 refine cr fun _ hK7_ => ?_
 refine sm (vI .i64 ord) ?_
 refine sv (v := (vA #[(Value.string s.in__Begin), (Value.string s.in__End), (vB s.in__Point), (vI .i64 s.from_), (vI .i64 s.till)])) (x_loadN (vs := [(Value.string s.in__Begin), (Value.string s.in__End), (vB s.in__Point), (vI .i64 s.from_), (vI .i64 s.till)]) rfl underlying44 rfl z44 rfl (Rd.cells (Holds.rd H4_ 0 rfl) 0 rfl)) ?_
 have H9_ := ((Holds.bring H4_ 1 rfl) :)
 refine S_list (T_call (al := [(vI .i64 ord), (vA #[(Value.string s.in__Begin), (Value.string s.in__End), (vB s.in__Point), (vI .i64 s.from_), (vI .i64 s.till)])]) (pre := []) rfl rfl cb84 (spProper R ord s (by first | assumption | omega)) H9_ ?_)
 rintro v8_ p13_ w10_ ⟨rfl, rfl⟩ S12_ H11_
 have S14_ := Same.trans S6_ S12_
 refine sm (vB (sProper ord s)) ?_
 rcases Bool.eq_false_or_eq_true (sProper ord s) with c15_t | c15_f
 ·skip
  refine S_yes (j := 3) (dj := 8) (b := true) rfl rfl (congrArg vB c15_t) (T_val (v := (vI .i64 ord)) (x_move rfl) ?_)
  refine S_yes (j := 3) (dj := 8) (b := true) rfl rfl (congrArg vB c15_t) (T_val (v := (vB (decide (ord ≠ 3)))) (x_bin rfl rfl rfl) ?_)
  refine S_yes (j := 3) (dj := 8) (b := true) rfl rfl (congrArg vB c15_t) (T_val (v := (vB (decide (ord ≠ 3)))) (x_move rfl) ?_)
  rcases Bool.eq_false_or_eq_true (decide (ord ≠ 3)) with c16_t | c16_f
  ·have c16_tp : ord ≠ 3 := of_decide_eq_true c16_t
   refine S_no (j := 6) (dj := 11) (b := true) rfl rfl (congrArg vB c16_t) (by decide) ?_
   refine S_no (j := 6) (dj := 11) (b := true) rfl rfl (congrArg vB c16_t) (by decide) ?_
   refine S_no (j := 6) (dj := 11) (b := true) rfl rfl (congrArg vB c16_t) (by decide) ?_
   refine S_no (j := 6) (dj := 11) (b := true) rfl rfl (congrArg vB c16_t) (by decide) ?_
   refine S_no (j := 6) (dj := 11) (b := true) rfl rfl (congrArg vB c16_t) (by decide) ?_
   refine S_noU (j := 11) (dj := 16) rfl rfl rfl ?_
   refine S_noU (j := 11) (dj := 16) rfl rfl rfl ?_
   refine S_noU (j := 11) (dj := 16) rfl rfl rfl ?_
   refine S_no (j := 6) (dj := 11) (b := true) rfl rfl (congrArg vB c16_t) (by decide) ?_
   refine S_no (j := 6) (dj := 11) (b := true) rfl rfl (congrArg vB c16_t) (by decide) ?_
   refine S_noU (j := 16) (dj := 21) rfl rfl rfl ?_
   refine S_noU (j := 16) (dj := 21) rfl rfl rfl ?_
   refine S_noU (j := 16) (dj := 21) rfl rfl rfl ?_
   refine S_no (j := 6) (dj := 11) (b := true) rfl rfl (congrArg vB c16_t) (by decide) ?_
   refine S_yes (j := 3) (dj := 8) (b := true) rfl rfl (congrArg vB c15_t) (T_pickT (v := (vB true)) (congrArg vB c16_t) rfl ?_)
   refine S_list (T_pickT (v := (vB true)) (congrArg vB c15_t) rfl ?_)
   refine sv (v := (vB true)) (x_assign rfl) ?_
   refine wn (hK7_ _ _ ?_)
   refine C_ret ?_
   refine R_any (v := (vB true)) (run_results1 rfl rfl) ?_
   have H17_ := Holds.pkF H11_ [0] 1
   exact ⟨_, _, rfl, ⟨(congrArg vB ((by unfold spanB; simp [c15_t, c16_t]) : true = (spanB ord s))), rfl⟩, S14_, H17_⟩
  ·have c16_fp : ¬ (ord ≠ 3) := of_decide_eq_false c16_f
   refine S_yes (j := 6) (dj := 11) (b := false) rfl rfl (congrArg vB c16_f) (T_val (v := (vQ b2_)) (by kernel_rfl) ?_)
   refine S_yes (j := 6) (dj := 11) (b := false) rfl rfl (congrArg vB c16_f) (T_val (v := (vP (some ⟨b2_, 2, none⟩))) (by kernel_rfl) ?_)
   refine S_yes (j := 6) (dj := 11) (b := false) rfl rfl (congrArg vB c16_f) (T_val (v := (vB s.in__Point)) (x_load1 rfl underlying4 rfl ((Holds.rd H11_ 1 rfl) 2 (vB s.in__Point) rfl)) ?_)
   refine S_yes (j := 6) (dj := 11) (b := false) rfl rfl (congrArg vB c16_f) (T_val (v := (vB (!s.in__Point))) (x_not rfl) ?_)
   refine S_yes (j := 6) (dj := 11) (b := false) rfl rfl (congrArg vB c16_f) (T_val (v := (vB (!s.in__Point))) (x_move rfl) ?_)
   rcases Bool.eq_false_or_eq_true (!s.in__Point) with c18_t | c18_f
   ·skip
    refine S_yes (j := 11) (dj := 16) (b := true) rfl rfl (congrArg vB c18_t) (T_val (v := (vP (some ⟨b2_, 3, none⟩))) (by kernel_rfl) ?_)
    refine S_yes (j := 11) (dj := 16) (b := true) rfl rfl (congrArg vB c18_t) (T_val (v := (vI .i64 s.from_)) (x_load1 rfl underlying2 rfl ((Holds.rd H11_ 1 rfl) 3 (vI .i64 s.from_) rfl)) ?_)
    refine S_yes (j := 11) (dj := 16) (b := true) rfl rfl (congrArg vB c18_t) (T_val (v := (vB (decide (-2305843009213693952 ≤ s.from_)))) (x_bin rfl rfl rfl) ?_)
    refine S_yes (j := 6) (dj := 11) (b := false) rfl rfl (congrArg vB c16_f) (T_pickT (v := (vB (decide (-2305843009213693952 ≤ s.from_)))) (congrArg vB c18_t) rfl ?_)
    refine S_yes (j := 6) (dj := 11) (b := false) rfl rfl (congrArg vB c16_f) (T_val (v := (vB (decide (-2305843009213693952 ≤ s.from_)))) (x_move rfl) ?_)
    rcases Bool.eq_false_or_eq_true (decide (-2305843009213693952 ≤ s.from_)) with c19_t | c19_f
    ·have c19_tp : -2305843009213693952 ≤ s.from_ := of_decide_eq_true c19_t
     refine S_yes (j := 16) (dj := 21) (b := true) rfl rfl (congrArg vB c19_t) (T_val (v := (vP (some ⟨b2_, 4, none⟩))) (by kernel_rfl) ?_)
     refine S_yes (j := 16) (dj := 21) (b := true) rfl rfl (congrArg vB c19_t) (T_val (v := (vI .i64 s.till)) (x_load1 rfl underlying2 rfl ((Holds.rd H11_ 1 rfl) 4 (vI .i64 s.till) rfl)) ?_)
     refine S_yes (j := 16) (dj := 21) (b := true) rfl rfl (congrArg vB c19_t) (T_val (v := (vB (decide (s.till ≤ 2305843009213693952)))) (x_bin rfl rfl rfl) ?_)
     refine S_yes (j := 6) (dj := 11) (b := false) rfl rfl (congrArg vB c16_f) (T_pickT (v := (vB (decide (s.till ≤ 2305843009213693952)))) (congrArg vB c19_t) rfl ?_)
     refine S_yes (j := 3) (dj := 8) (b := true) rfl rfl (congrArg vB c15_t) (T_pickF (v := (vB (decide (s.till ≤ 2305843009213693952)))) (congrArg vB c16_f) rfl ?_)
     refine S_list (T_pickT (v := (vB (decide (s.till ≤ 2305843009213693952)))) (congrArg vB c15_t) rfl ?_)
     refine sv (v := (vB (decide (s.till ≤ 2305843009213693952)))) (x_assign rfl) ?_
     refine wn (hK7_ _ _ ?_)
     refine C_ret ?_
     refine R_any (v := (vB (decide (s.till ≤ 2305843009213693952)))) (run_results1 rfl rfl) ?_
     have H20_ := Holds.pkF H11_ [0] 1
     exact ⟨_, _, rfl, ⟨(congrArg vB ((by unfold spanB; simp [c15_t, c16_f, c18_t, c19_t]) : (decide (s.till ≤ 2305843009213693952)) = (spanB ord s))), rfl⟩, S14_, H20_⟩
    ·have c19_fp : ¬ (-2305843009213693952 ≤ s.from_) := of_decide_eq_false c19_f
     refine S_no (j := 16) (dj := 21) (b := false) rfl rfl (congrArg vB c19_f) (by decide) ?_
     refine S_no (j := 16) (dj := 21) (b := false) rfl rfl (congrArg vB c19_f) (by decide) ?_
     refine S_no (j := 16) (dj := 21) (b := false) rfl rfl (congrArg vB c19_f) (by decide) ?_
     refine S_yes (j := 6) (dj := 11) (b := false) rfl rfl (congrArg vB c16_f) (T_pickF (v := (vB false)) (congrArg vB c19_f) rfl ?_)
     refine S_yes (j := 3) (dj := 8) (b := true) rfl rfl (congrArg vB c15_t) (T_pickF (v := (vB false)) (congrArg vB c16_f) rfl ?_)
     refine S_list (T_pickT (v := (vB false)) (congrArg vB c15_t) rfl ?_)
     refine sv (v := (vB false)) (x_assign rfl) ?_
     refine wn (hK7_ _ _ ?_)
     refine C_ret ?_
     refine R_any (v := (vB false)) (run_results1 rfl rfl) ?_
     have H21_ := Holds.pkF H11_ [0] 1
     exact ⟨_, _, rfl, ⟨(congrArg vB ((by unfold spanB; simp [c15_t, c16_f, c18_t, c19_f]) : false = (spanB ord s))), rfl⟩, S14_, H21_⟩
   ·skip
    refine S_no (j := 11) (dj := 16) (b := false) rfl rfl (congrArg vB c18_f) (by decide) ?_
    refine S_no (j := 11) (dj := 16) (b := false) rfl rfl (congrArg vB c18_f) (by decide) ?_
    refine S_no (j := 11) (dj := 16) (b := false) rfl rfl (congrArg vB c18_f) (by decide) ?_
    refine S_yes (j := 6) (dj := 11) (b := false) rfl rfl (congrArg vB c16_f) (T_pickF (v := (vB false)) (congrArg vB c18_f) rfl ?_)
    refine S_yes (j := 6) (dj := 11) (b := false) rfl rfl (congrArg vB c16_f) (T_val (v := (vB false)) (x_move rfl) ?_)
    refine S_no (j := 16) (dj := 21) (b := false) rfl rfl rfl (by decide) ?_
    refine S_no (j := 16) (dj := 21) (b := false) rfl rfl rfl (by decide) ?_
    refine S_no (j := 16) (dj := 21) (b := false) rfl rfl rfl (by decide) ?_
    refine S_yes (j := 6) (dj := 11) (b := false) rfl rfl (congrArg vB c16_f) (T_pickF (v := (vB false)) rfl rfl ?_)
    refine S_yes (j := 3) (dj := 8) (b := true) rfl rfl (congrArg vB c15_t) (T_pickF (v := (vB false)) (congrArg vB c16_f) rfl ?_)
    refine S_list (T_pickT (v := (vB false)) (congrArg vB c15_t) rfl ?_)
    refine sv (v := (vB false)) (x_assign rfl) ?_
    refine wn (hK7_ _ _ ?_)
    refine C_ret ?_
    refine R_any (v := (vB false)) (run_results1 rfl rfl) ?_
    have H22_ := Holds.pkF H11_ [0] 1
    exact ⟨_, _, rfl, ⟨(congrArg vB ((by unfold spanB; simp [c15_t, c16_f, c18_f]) : false = (spanB ord s))), rfl⟩, S14_, H22_⟩
 ·skip
  refine S_no (j := 3) (dj := 8) (b := false) rfl rfl (congrArg vB c15_f) (by decide) ?_
  refine S_no (j := 3) (dj := 8) (b := false) rfl rfl (congrArg vB c15_f) (by decide) ?_
  refine S_no (j := 3) (dj := 8) (b := false) rfl rfl (congrArg vB c15_f) (by decide) ?_
  refine S_noU (j := 6) (dj := 11) rfl rfl rfl ?_
  refine S_noU (j := 6) (dj := 11) rfl rfl rfl ?_
  refine S_noU (j := 6) (dj := 11) rfl rfl rfl ?_
  refine S_noU (j := 6) (dj := 11) rfl rfl rfl ?_
  refine S_noU (j := 6) (dj := 11) rfl rfl rfl ?_
  refine S_noU (j := 11) (dj := 16) rfl rfl rfl ?_
  refine S_noU (j := 11) (dj := 16) rfl rfl rfl ?_
  refine S_noU (j := 11) (dj := 16) rfl rfl rfl ?_
  refine S_noU (j := 6) (dj := 11) rfl rfl rfl ?_
  refine S_noU (j := 6) (dj := 11) rfl rfl rfl ?_
  refine S_noU (j := 16) (dj := 21) rfl rfl rfl ?_
  refine S_noU (j := 16) (dj := 21) rfl rfl rfl ?_
  refine S_noU (j := 16) (dj := 21) rfl rfl rfl ?_
  refine S_noU (j := 6) (dj := 11) rfl rfl rfl ?_
  refine S_no (j := 3) (dj := 8) (b := false) rfl rfl (congrArg vB c15_f) (by decide) ?_
  refine S_list (T_pickF (v := (vB false)) (congrArg vB c15_f) rfl ?_)
  refine sv (v := (vB false)) (x_assign rfl) ?_
  refine wn (hK7_ _ _ ?_)
  refine C_ret ?_
  refine R_any (v := (vB false)) (run_results1 rfl rfl) ?_
  have H23_ := Holds.pkF H11_ [0] 1
  exact ⟨_, _, rfl, ⟨(congrArg vB ((by unfold spanB; simp [c15_f]) : false = (spanB ord s))), rfl⟩, S14_, H23_⟩

set_option maxHeartbeats 8000000 in
theorem lwFill (R : HP) (ord : Int) (v : Value) (l : List SN) (hv : RS R 5 v (List.length l) (l.flatMap SN.cells)) (hz : ∀ s ∈ l, SSz s) (hn : l.length ≤ 2147483647) :
    TriG Try.prog 33 #[(vI .i64 ord), v] R [] (fun R' v__ post__ => (v__ = (vT #[(vS none 0 0), (vP none), (vB false)]) ∧ post__ = []) ∨ (∃ (oa : Option Addr) (oc : Nat) (O : List TX) (pb : Nat) (pv : Value) (P : List PN) (b : Bool), v__ = (vT #[(vS oa (List.length O) oc), (vQ pb), (vB b)]) ∧ post__ = [cl pb 75 [(vI .i64 ord), pv], sl 63 10 (vS oa (List.length O) oc) (List.length O) (O.flatMap TX.cells)] ∧ (RS R' 6 pv (List.length P) (P.flatMap PN.cells)) ∧ (Fil ord O P) ∧ (P.length ≤ 200) ∧ (b = true → 0 ≤ ord ∧ ord ≤ 3))) := by
 refine TriG.into (n := 53) (al := [(vI .i64 ord), v]) func33 rfl ntmps33 rfl rfl fun w F H => ?_
 refine cr fun _ hK1_ => ?_
 refine sv (v := (vS none 0 0)) (x_assign rfl) ?_
 refine sv (v := (vP none)) (x_assign rfl) ?_
 refine sv (v := (vB false)) (x_assign rfl) ?_
 refine wn (hK1_ _ _ ?_)
 refine cr fun _ hK2_ => ?_
 refine sm (vI .i64 ord) ?_
 refine sv (v := (vA #[(vI .i64 ord), (vS none 0 0)])) (by kernel_rfl) ?_
 refine S_list (T_box (v := (vA #[(vI .i64 ord), (vS none 0 0)])) rfl H ?_)
 intro b3_ w4_ S6_ H5_
 have S7_ := Same.trans (Same.refl w) S6_
 refine sv (v := (vQ b3_)) (x_assign rfl) ?_
 refine wn (hK2_ _ _ ?_)
 refine cr fun _ hK8_ => ?_
 refine sv (v := (vS none 0 0)) (x_assign rfl) ?_
 refine wn (hK8_ _ _ ?_)
 refine C_seq (fun _ hK9_ => ?_)
 refine cr fun _ hK10_ => ?_
 refine sv (v := v) (x_move rfl) ?_
 refine sv (v := (vI .i64 ((List.length l) : Int))) (x_lenRS rfl hv underlying30) ?_
 refine sm (vI .i64 0) ?_
 refine wn (hK10_ _ _ ?_)
 refine C_block ?_
 have H11_ : Holds w4_ (sl 63 10 (vS none 0 0) (List.length ([] : List TX)) (([] : List TX).flatMap TX.cells) :: cl b3_ 75 [(vI .i64 ord), (vS none 0 0)] :: ro R :: F) := Holds.add_nil H5_ 63 10
 have H12_ := Holds.recl H11_ 1 rfl ((lcons rfl (lcons (rfl : (vS none 0 0) = ((vS none 0 0))) rfl)) : [(vI .i64 ord), (vS none 0 0)] = [(vI .i64 ord), ((vS none 0 0))])
 refine C_loop (γ := HP × Nat × Value × (List TX) × Value × (List PN) × Value × Value × Bool) (fun x__ a__ w1__ => match x__ with | ⟨R1, k, cv, O, pv, P, t4_v, t5_v, t6_v⟩ => ∃ h : Env, a__ = mkA 53 (upd (upd (upd (upd (upd (upd (upd (upd (upd h 0 (vI .i64 ord)) 4 t4_v) 5 t5_v) 6 (vB t6_v)) 7 (vQ b3_)) 8 cv) 14 v) 15 (vI .i64 ((List.length l) : Int))) 16 (vI .i64 (k : Int))) [] ∧ Holds w1__ (sl 63 10 cv (List.length O) (O.flatMap TX.cells) :: cl b3_ 75 [(vI .i64 ord), pv] :: ro R1 :: F) ∧ Same w w1__ ∧ (Sub R R1) ∧ (k ≤ l.length) ∧ (RS R1 6 pv (List.length P) (P.flatMap PN.cells)) ∧ (Fil ord O P) ∧ (P.length ≤ k ∧ P.length ≤ 200)) (fun x__ => match x__ with | ⟨R1, k, cv, O, pv, P, t4_v, t5_v, t6_v⟩ => l.length - k) (⟨R, 0, (vS none 0 0), ([] : List TX), (vS none 0 0), ([] : List PN), (vS none 0 0), (vP none), false⟩) ⟨_, congrArg (fun e => mkA 53 e []) (ch (ch (ch (ch (ch (ch (ch (ch (ch rfl rfl) (rfl : (vS none 0 0) = ((vS none 0 0)))) (rfl : (vP none) = ((vP none)))) rfl) rfl) (rfl : (vS none 0 0) = ((vS none 0 0)))) rfl) rfl) (congrArg (vI .i64) ((by first | rfl | omega | (simp; done) | (simp; omega)) : 0 = (0 : Int)))), H12_, S7_, (Sub.rfl' _), (by first | assumption | omega | exact rfl), (RS.nil _ _), (Fil.nil _), (⟨Nat.le_refl _, Nat.zero_le _⟩)⟩ ?_
 rintro ⟨R1, k, cv, O, pv, P, t4_v, t5_v, t6_v⟩ _ w13_ ⟨h, rfl, H14_, S15_, hsR1, hkk, hPq, hF, hPl⟩
 refine cr fun _ hK16_ => ?_
 refine sv (v := (vB (decide ((k : Int) < ((List.length l) : Int))))) (x_bin rfl rfl rfl) ?_
 refine wn (hK16_ _ _ ?_)
 refine C_seq (fun _ hK17_ => ?_)
 refine C_cond (b := decide ((k : Int) < ((List.length l) : Int))) rfl (fun c18_t => ?_) (fun c18_f => ?_)
 ·have c18_tp : (k : Int) < ((List.length l) : Int) := of_decide_eq_true c18_t
  refine C_skip (X_then (hK17_ _ _ ?_))
  refine C_seq (fun _ hK19_ => ?_)
  refine C_block ?_
  refine cr fun _ hK20_ => ?_
  refine sm (vI .i64 (k : Int)) ?_
  obtain ⟨x21_, hx22_, hm23_⟩ := elem_at l k (by omega)
  have hp24_ := hz x21_ hm23_
  have hz1_ := hz x21_ hm23_
  have hz2_ := hz1_.1
  have hol_ := hF.len
  refine sv (v := (vP (some ⟨(sb v), so v + (k * 5 + 0), none⟩))) (x_idxRS (v := v) rfl (RS.mono hv hsR1) rfl underlying30 z44 (by omega) (by omega) (by omega : _ = k) rfl) ?_
  refine sv (v := (vA #[(Value.string x21_.in__Begin), (Value.string x21_.in__End), (vB x21_.in__Point), (vI .i64 x21_.from_), (vI .i64 x21_.till)])) (x_loadN (vs := [(Value.string x21_.in__Begin), (Value.string x21_.in__End), (vB x21_.in__Point), (vI .i64 x21_.from_), (vI .i64 x21_.till)]) rfl underlying44 rfl z44 rfl (RC.cells (RS.rc (RS.mono hv hsR1)) (Holds.ro_at H14_ 2 rfl) (k * 5 + 0) (fm_cells SN.len hx22_ (i := 0) rfl))) ?_
  refine S_list (T_alloc z44 H14_ ?_)
  intro b25_ w26_ S28_ H27_
  have S29_ := Same.trans S15_ S28_
  refine sv (v := (vI .i64 (k : Int))) (x_assign rfl) ?_
  refine S_list0 (T_storeN (vs := [(Value.string x21_.in__Begin), (Value.string x21_.in__End), (vB x21_.in__Point), (vI .i64 x21_.from_), (vI .i64 x21_.till)]) rfl rfl z44 rfl (by simp [Value.oneCell']) H27_ 0 rfl (Nat.le_of_ble_eq_true (by rfl)) ?_)
  intro w30_ S32_ H31_
  have S33_ := Same.trans S29_ S32_
  refine wn (hK20_ _ _ ?_)
  refine C_seq (fun _ hK34_ => ?_)
  refine cr fun _ hK35_ => ?_
  refine sm (vI .i64 (k : Int)) ?_
  refine sv (v := (vB (decide (200 ≤ (k : Int))))) (x_bin rfl rfl rfl) ?_
  refine sv (v := (vB (decide (200 ≤ (k : Int))))) (x_move rfl) ?_
  rcases Bool.eq_false_or_eq_true (decide (200 ≤ (k : Int))) with c36_t | c36_f
  ·have c36_tp : 200 ≤ (k : Int) := of_decide_eq_true c36_t
   refine S_no (j := 2) (dj := 23) (b := true) rfl rfl (congrArg vB c36_t) (by decide) ?_
   refine S_no (j := 2) (dj := 23) (b := true) rfl rfl (congrArg vB c36_t) (by decide) ?_
   refine S_no (j := 2) (dj := 23) (b := true) rfl rfl (congrArg vB c36_t) (by decide) ?_
   refine S_no (j := 2) (dj := 23) (b := true) rfl rfl (congrArg vB c36_t) (by decide) ?_
   refine S_list (T_pickT (v := (vB true)) (congrArg vB c36_t) rfl ?_)
   refine wn (hK35_ _ _ ?_)
   refine C_condT rfl ?_
   refine cr fun _ hK37_ => ?_
   refine sv (v := (vS none 0 0)) (x_assign rfl) ?_
   refine sv (v := (vP none)) (x_assign rfl) ?_
   refine sv (v := (vB false)) (x_assign rfl) ?_
   refine wn (hK37_ _ _ ?_)
   refine C_ret (X_thenR (X_blkR (X_thenR (X_thenR (X_blkR (X_thenR ?_))))))
   refine R_any (v := (vT #[(vS none 0 0), (vP none), (vB false)])) (run_results3 rfl rfl rfl rfl) ?_
   have H38_ := Holds.pkF H31_ [3] 3
   exact ⟨R1, _, _, rfl, hsR1, (.inl ⟨rfl, rfl⟩), S33_, H38_⟩
  ·have c36_fp : ¬ (200 ≤ (k : Int)) := of_decide_eq_false c36_f
   refine S_yes (j := 2) (dj := 23) (b := false) rfl rfl (congrArg vB c36_f) (T_val (v := (vI .i64 ord)) (x_move rfl) ?_)
   refine S_yes (j := 2) (dj := 23) (b := false) rfl rfl (congrArg vB c36_f) (T_val (v := (vA #[(Value.string x21_.in__Begin), (Value.string x21_.in__End), (vB x21_.in__Point), (vI .i64 x21_.from_), (vI .i64 x21_.till)])) (x_loadN (vs := [(Value.string x21_.in__Begin), (Value.string x21_.in__End), (vB x21_.in__Point), (vI .i64 x21_.from_), (vI .i64 x21_.till)]) rfl underlying44 rfl z44 rfl (Rd.cells (Holds.rd H31_ 0 rfl) 0 rfl)) ?_)
   have H40_ := ((Holds.bring H31_ 3 rfl) :)
   refine S_yes (j := 2) (dj := 23) (b := false) rfl rfl (congrArg vB c36_f) (T_call (al := [(vI .i64 ord), (vA #[(Value.string x21_.in__Begin), (Value.string x21_.in__End), (vB x21_.in__Point), (vI .i64 x21_.from_), (vI .i64 x21_.till)])]) (pre := []) rfl rfl cb60 (lwSpan R1 ord x21_ (hz2_)) H40_ ?_)
   rintro v39_ p44_ w41_ ⟨rfl, rfl⟩ S43_ H42_
   have S45_ := Same.trans S33_ S43_
   refine S_yes (j := 2) (dj := 23) (b := false) rfl rfl (congrArg vB c36_f) (T_val (v := (vB (!(spanB ord x21_)))) (x_not rfl) ?_)
   refine S_list (T_pickF (v := (vB (!(spanB ord x21_)))) (congrArg vB c36_f) rfl ?_)
   refine wn (hK35_ _ _ ?_)
   refine C_cond (b := !(spanB ord x21_)) rfl (fun c46_t => ?_) (fun c46_f => ?_)
   ·skip
    refine cr fun _ hK47_ => ?_
    refine sv (v := (vS none 0 0)) (x_assign rfl) ?_
    refine sv (v := (vP none)) (x_assign rfl) ?_
    refine sv (v := (vB false)) (x_assign rfl) ?_
    refine wn (hK47_ _ _ ?_)
    refine C_ret (X_thenR (X_blkR (X_thenR (X_thenR (X_blkR (X_thenR ?_))))))
    refine R_any (v := (vT #[(vS none 0 0), (vP none), (vB false)])) (run_results3 rfl rfl rfl rfl) ?_
    have H48_ := Holds.pkF H42_ [0] 3
    exact ⟨R1, _, _, rfl, hsR1, (.inl ⟨rfl, rfl⟩), S45_, H48_⟩
   ·skip
    refine C_skip (X_then (hK34_ _ _ ?_))
    refine C_seq (fun _ hK49_ => ?_)
    refine cr fun _ hK50_ => ?_
    refine sm (vQ b3_) ?_
    refine sv (v := (vA #[(Value.string x21_.in__Begin), (Value.string x21_.in__End), (vB x21_.in__Point), (vI .i64 x21_.from_), (vI .i64 x21_.till)])) (x_loadN (vs := [(Value.string x21_.in__Begin), (Value.string x21_.in__End), (vB x21_.in__Point), (vI .i64 x21_.from_), (vI .i64 x21_.till)]) rfl underlying44 rfl z44 rfl (Rd.cells (Holds.rd H42_ 1 rfl) 0 rfl)) ?_
    refine sv (v := (vA #[(vI .i64 3), (Value.string x21_.in__Begin), (Value.string x21_.in__End), (vB x21_.in__Point), (vI .i64 x21_.from_), (vI .i64 x21_.till), (vI .i64 0), (vI .i64 0), (vS none 0 0), (vS none 0 0)])) (by kernel_rfl) ?_
    have H56_ := ((Holds.bring (Holds.bring H42_ 3 rfl) 1 rfl) :)
    refine S_list (T_callG (al := [(vQ b3_), (vA #[(vI .i64 ((⟨3, x21_.in__Begin, x21_.in__End, x21_.in__Point, x21_.from_, x21_.till, 0, 0, .slice none 0 0, .slice none 0 0⟩ : TO).kind)), (Value.string ((⟨3, x21_.in__Begin, x21_.in__End, x21_.in__Point, x21_.from_, x21_.till, 0, 0, .slice none 0 0, .slice none 0 0⟩ : TO).in__In_Begin)), (Value.string ((⟨3, x21_.in__Begin, x21_.in__End, x21_.in__Point, x21_.from_, x21_.till, 0, 0, .slice none 0 0, .slice none 0 0⟩ : TO).in__In_End)), (vB ((⟨3, x21_.in__Begin, x21_.in__End, x21_.in__Point, x21_.from_, x21_.till, 0, 0, .slice none 0 0, .slice none 0 0⟩ : TO).in__In_Point)), (vI .i64 ((⟨3, x21_.in__Begin, x21_.in__End, x21_.in__Point, x21_.from_, x21_.till, 0, 0, .slice none 0 0, .slice none 0 0⟩ : TO).in__From)), (vI .i64 ((⟨3, x21_.in__Begin, x21_.in__End, x21_.in__Point, x21_.from_, x21_.till, 0, 0, .slice none 0 0, .slice none 0 0⟩ : TO).in__Till)), (vI .i64 ((⟨3, x21_.in__Begin, x21_.in__End, x21_.in__Point, x21_.from_, x21_.till, 0, 0, .slice none 0 0, .slice none 0 0⟩ : TO).val)), (vI .i64 ((⟨3, x21_.in__Begin, x21_.in__End, x21_.in__Point, x21_.from_, x21_.till, 0, 0, .slice none 0 0, .slice none 0 0⟩ : TO).n)), ((⟨3, x21_.in__Begin, x21_.in__End, x21_.in__Point, x21_.from_, x21_.till, 0, 0, .slice none 0 0, .slice none 0 0⟩ : TO).other), ((⟨3, x21_.in__Begin, x21_.in__End, x21_.in__Point, x21_.from_, x21_.till, 0, 0, .slice none 0 0, .slice none 0 0⟩ : TO).vals)])]) (pre := [cl b3_ 75 [(vI .i64 ord), pv]]) rfl (lcons rfl (lcons (congrArg (fun l => vA (List.toArray l)) (lcons (congrArg (vI .i64) ((by first | rfl | omega | (simp; done) | (simp; omega)) : 3 = (⟨3, x21_.in__Begin, x21_.in__End, x21_.in__Point, x21_.from_, x21_.till, 0, 0, .slice none 0 0, .slice none 0 0⟩ : TO).kind)) (lcons (congrArg Value.string ((by first | rfl | omega | (simp; done) | (simp; omega)) : x21_.in__Begin = ((⟨3, x21_.in__Begin, x21_.in__End, x21_.in__Point, x21_.from_, x21_.till, 0, 0, .slice none 0 0, .slice none 0 0⟩ : TO).in__In_Begin))) (lcons (congrArg Value.string ((by first | rfl | omega | (simp; done) | (simp; omega)) : x21_.in__End = ((⟨3, x21_.in__Begin, x21_.in__End, x21_.in__Point, x21_.from_, x21_.till, 0, 0, .slice none 0 0, .slice none 0 0⟩ : TO).in__In_End))) (lcons (congrArg vB ((by first | rfl | omega | (simp; done) | (simp; omega)) : x21_.in__Point = ((⟨3, x21_.in__Begin, x21_.in__End, x21_.in__Point, x21_.from_, x21_.till, 0, 0, .slice none 0 0, .slice none 0 0⟩ : TO).in__In_Point))) (lcons (congrArg (vI .i64) ((by first | rfl | omega | (simp; done) | (simp; omega)) : x21_.from_ = (⟨3, x21_.in__Begin, x21_.in__End, x21_.in__Point, x21_.from_, x21_.till, 0, 0, .slice none 0 0, .slice none 0 0⟩ : TO).in__From)) (lcons (congrArg (vI .i64) ((by first | rfl | omega | (simp; done) | (simp; omega)) : x21_.till = (⟨3, x21_.in__Begin, x21_.in__End, x21_.in__Point, x21_.from_, x21_.till, 0, 0, .slice none 0 0, .slice none 0 0⟩ : TO).in__Till)) (lcons (congrArg (vI .i64) ((by first | rfl | omega | (simp; done) | (simp; omega)) : 0 = (⟨3, x21_.in__Begin, x21_.in__End, x21_.in__Point, x21_.from_, x21_.till, 0, 0, .slice none 0 0, .slice none 0 0⟩ : TO).val)) (lcons (congrArg (vI .i64) ((by first | rfl | omega | (simp; done) | (simp; omega)) : 0 = (⟨3, x21_.in__Begin, x21_.in__End, x21_.in__Point, x21_.from_, x21_.till, 0, 0, .slice none 0 0, .slice none 0 0⟩ : TO).n)) (lcons ((by first | rfl | omega | (simp; done) | (simp; omega)) : (vS none 0 0) = ((⟨3, x21_.in__Begin, x21_.in__End, x21_.in__Point, x21_.from_, x21_.till, 0, 0, .slice none 0 0, .slice none 0 0⟩ : TO).other)) (lcons ((by first | rfl | omega | (simp; done) | (simp; omega)) : (vS none 0 0) = ((⟨3, x21_.in__Begin, x21_.in__End, x21_.in__Point, x21_.from_, x21_.till, 0, 0, .slice none 0 0, .slice none 0 0⟩ : TO).vals)) rfl))))))))))) rfl)) cb59 (spDo3 R1 ord b3_ pv P (⟨3, x21_.in__Begin, x21_.in__End, x21_.in__Point, x21_.from_, x21_.till, 0, 0, .slice none 0 0, .slice none 0 0⟩ : TO) (hPq) (hF.z) (hz2_) (by omega) (rfl)) H56_ ?_)
    rintro R52_ v53_ p60_ w57_ hs51_ ⟨a54_, rfl, rfl, he55_⟩ S59_ H58_
    have S61_ := Same.trans S45_ S59_
    have hz_R_R52_ := Sub.trans' hsR1 hs51_
    refine sv (v := (vB a54_.oK)) (by kernel_rfl) ?_
    refine wn (hK50_ _ _ ?_)
    refine C_cond (b := a54_.oK) rfl (fun c62_t => ?_) (fun c62_f => ?_)
    ·skip
     refine C_exit (X_thenX (X_blkHit ?_))
     refine (X_then (hK19_ _ _ ?_))
     refine C_reg ?_
     refine sv (v := (vI .i64 ((k : Int) + 1))) (x_bin rfl rfl (ib_add (IntWalk.i64_in _ (by omega)))) ?_
     refine sm (vI .i64 ((k : Int) + 1)) ?_
     refine wpList_nil (X_then ?_)
     have H63_ := Holds.pkF H58_ [3, 1, 0] 1
     exact ⟨⟨R52_, k + 1, cv, O, pv, P, t4_v, t5_v, t6_v⟩, ⟨_, congrArg (fun e => mkA 53 e []) (ch (ch (ch (ch (ch (ch (ch (ch (ch rfl rfl) rfl) rfl) rfl) rfl) rfl) rfl) rfl) (congrArg (vI .i64) ((by first | rfl | omega | (simp; done) | (simp; omega)) : (k : Int) + 1 = ((k + 1 : Nat) : Int)))), H63_, S61_, (hz_R_R52_), (by first | assumption | omega | exact rfl), ((hPq.mono hs51_)), (hF), (by omega)⟩, by first | omega | (dsimp only; omega) | (simp; omega)⟩
    ·skip
     refine C_skip (X_then (hK49_ _ _ ?_))
     refine cr fun _ hK64_ => ?_
     refine sv (v := cv) (x_move rfl) ?_
     refine sv (v := (vA #[(Value.string x21_.in__Begin), (Value.string x21_.in__End), (vB x21_.in__Point), (vI .i64 x21_.from_), (vI .i64 x21_.till)])) (x_loadN (vs := [(Value.string x21_.in__Begin), (Value.string x21_.in__End), (vB x21_.in__Point), (vI .i64 x21_.from_), (vI .i64 x21_.till)]) rfl underlying44 rfl z44 rfl (Rd.cells (Holds.rd H58_ 2 rfl) 0 rfl)) ?_
     refine sm (vI .i64 (k : Int)) ?_
     refine sv (v := (vA #[(vI .i64 1), (Value.string x21_.in__Begin), (Value.string x21_.in__End), (vB x21_.in__Point), (vI .i64 x21_.from_), (vI .i64 x21_.till), (vI .i64 (k : Int)), (vI .i64 0), (vS none 0 0), (vS none 0 0)])) (by kernel_rfl) ?_
     refine S_list (T_new (obj := .cells #[(vI .i64 1), (Value.string x21_.in__Begin), (Value.string x21_.in__End), (vB x21_.in__Point), (vI .i64 x21_.from_), (vI .i64 x21_.till), (vI .i64 (k : Int)), (vI .i64 0), (vS none 0 0), (vS none 0 0)] 63) (f := fun b__ => .slice (some ⟨b__, 0, none⟩) 1 1) (A := fun b__ => cl b__ 63 [(vI .i64 1), (Value.string x21_.in__Begin), (Value.string x21_.in__End), (vB x21_.in__Point), (vI .i64 x21_.from_), (vI .i64 x21_.till), (vI .i64 (k : Int)), (vI .i64 0), (vS none 0 0), (vS none 0 0)]) (by kernel_rfl) (fun l h => h.alloc _ _) H58_ ?_)
     intro b65_ w66_ S68_ H67_
     have S69_ := Same.trans S61_ S68_
     refine S_list (T_append rfl rfl underlying66 z63 rfl (by decide) H67_ 4 rfl (Holds.cl_src H67_ 0 rfl underlying66 (by simp [Value.oneCell']) rfl) (by first | omega | (simp only [List.length_append, List.length_cons, List.length_nil]; omega)) ?_)
     intro v70_ w71_ S73_ H72_
     have S74_ := Same.trans S69_ S73_
     refine sv (v := v70_) (x_assign rfl) ?_
     refine wn (hK64_ _ _ ?_)
     refine C_reg ?_
     refine sm (vQ b3_) ?_
     refine sv (v := (vA #[(Value.string x21_.in__Begin), (Value.string x21_.in__End), (vB x21_.in__Point), (vI .i64 x21_.from_), (vI .i64 x21_.till)])) (x_loadN (vs := [(Value.string x21_.in__Begin), (Value.string x21_.in__End), (vB x21_.in__Point), (vI .i64 x21_.from_), (vI .i64 x21_.till)]) rfl underlying44 rfl z44 rfl (Rd.cells (Holds.rd H72_ 3 rfl) 0 rfl)) ?_
     refine sm (vI .i64 (k : Int)) ?_
     have H80_ := ((Holds.bring (Holds.bring H72_ 2 rfl) 2 rfl) :)
     refine S_list (T_callG (al := [(vQ b3_), (vA #[(Value.string x21_.in__Begin), (Value.string x21_.in__End), (vB x21_.in__Point), (vI .i64 x21_.from_), (vI .i64 x21_.till)]), (vI .i64 (k : Int))]) (pre := [cl b3_ 75 [(vI .i64 ord), pv]]) rfl rfl cb61 (spPut R52_ ord b3_ pv P x21_ (k : Int) ((hPq.mono hs51_)) (hF.z) (hz2_) (by omega)) H80_ ?_)
     rintro R76_ v77_ p84_ w81_ hs75_ ⟨pv78_, rfl, rfl, he79_⟩ S83_ H82_
     have S85_ := Same.trans S74_ S83_
     have hz_R_R76_ := Sub.trans' hz_R_R52_ hs75_
     have hz_R1_R76_ := Sub.trans' hs51_ hs75_
     refine wpList_nil (X_blkN (X_then (hK19_ _ _ ?_)))
     refine C_reg ?_
     refine sv (v := (vI .i64 ((k : Int) + 1))) (x_bin rfl rfl (ib_add (IntWalk.i64_in _ (by omega)))) ?_
     refine sm (vI .i64 ((k : Int) + 1)) ?_
     refine wpList_nil (X_then ?_)
     have H86_ := Holds.resl H82_ 4 rfl (by rw [List.flatMap_append]; rfl : (O.flatMap TX.cells) ++ [(vI .i64 1), (Value.string x21_.in__Begin), (Value.string x21_.in__End), (vB x21_.in__Point), (vI .i64 x21_.from_), (vI .i64 x21_.till), (vI .i64 (k : Int)), (vI .i64 0), (vS none 0 0), (vS none 0 0)] = (O ++ [insOp x21_ (k : Int)]).flatMap TX.cells) (by rw [List.length_append]; rfl : (List.length O) + 1 = (List.length (O ++ [insOp x21_ (k : Int)])))
     have hno_ : ∀ y ∈ P, sSame ord y.sn x21_ = false := spFindX_ok (he55_.1.symm.trans c62_f)
     have hF2_ : Fil ord (O ++ [insOp x21_ (k : Int)]) (putP ord x21_ (k : Int) P) := hF.snoc (by simpa using c46_f) hz1_ hno_
     have hl2_ : (putP ord x21_ (k : Int) P).length = P.length + 1 := by have h__ := hF2_.len; rw [List.length_append, hF.len] at h__; exact h__.symm
     have H87_ := Holds.pkF H86_ [4, 1, 0] 2
     exact ⟨⟨R76_, k + 1, v70_, (O ++ [insOp x21_ (k : Int)]), pv78_, (putP ord x21_ (k : Int) P), t4_v, t5_v, t6_v⟩, ⟨_, congrArg (fun e => mkA 53 e []) (ch (ch (ch (ch (ch (ch (ch (ch (ch rfl rfl) rfl) rfl) rfl) rfl) rfl) rfl) rfl) (congrArg (vI .i64) ((by first | rfl | omega | (simp; done) | (simp; omega)) : (k : Int) + 1 = ((k + 1 : Nat) : Int)))), H87_, S85_, (hz_R_R76_), (by first | assumption | omega | exact rfl), (he79_), (hF2_), (by omega)⟩, by first | omega | (dsimp only; omega) | (simp; omega)⟩
 ·have c18_fp : ¬ ((k : Int) < ((List.length l) : Int)) := of_decide_eq_false c18_f
  refine C_exit (X_thenX (X_thenX (X_blkHit ?_)))
  refine (X_then (hK9_ _ _ ?_))
  refine cr fun _ hK88_ => ?_
  obtain ⟨oa_, oc_, ecv_, _⟩ := RS.len (Holds.sl_RSw H14_ 0 rfl)
  subst ecv_
  ·skip
   refine sm (vS oa_ (List.length O) oc_) ?_
   refine sm (vQ b3_) ?_
   refine sm (vI .i64 ord) ?_
   refine sv (v := (vB (decide (0 ≤ ord)))) (x_bin rfl rfl rfl) ?_
   refine sm (vB (decide (0 ≤ ord))) ?_
   rcases Bool.eq_false_or_eq_true (decide (0 ≤ ord)) with c89_t | c89_f
   ·have c89_tp : 0 ≤ ord := of_decide_eq_true c89_t
    refine S_yes (j := 4) (dj := 49) (b := true) rfl rfl (congrArg vB c89_t) (T_val (v := (vI .i64 ord)) (x_move rfl) ?_)
    refine S_yes (j := 4) (dj := 49) (b := true) rfl rfl (congrArg vB c89_t) (T_val (v := (vB (decide (ord ≤ 3)))) (x_bin rfl rfl rfl) ?_)
    refine S_list (T_pickT (v := (vB (decide (ord ≤ 3)))) (congrArg vB c89_t) rfl ?_)
    refine sv (v := (vS oa_ (List.length O) oc_)) (x_assign rfl) ?_
    refine sv (v := (vQ b3_)) (x_assign rfl) ?_
    refine sv (v := (vB (decide (ord ≤ 3)))) (x_assign rfl) ?_
    refine wn (hK88_ _ _ ?_)
    refine C_ret ?_
    refine R_any (v := (vT #[(vS oa_ (List.length O) oc_), (vQ b3_), (vB (decide (ord ≤ 3)))])) (run_results3 rfl rfl rfl rfl) ?_
    have H90_ := Holds.pkF H14_ [2, 1, 0] 0
    exact ⟨R1, _, _, rfl, hsR1, (.inr ⟨oa_, oc_, O, b3_, pv, P, decide (ord ≤ 3), rfl, rfl, (hPq), (hF), (by omega), (fun h => by first | (cases h; done) | (have h__ := of_decide_eq_true h; omega))⟩), S15_, H90_⟩
   ·have c89_fp : ¬ (0 ≤ ord) := of_decide_eq_false c89_f
    refine S_no (j := 4) (dj := 49) (b := false) rfl rfl (congrArg vB c89_f) (by decide) ?_
    refine S_no (j := 4) (dj := 49) (b := false) rfl rfl (congrArg vB c89_f) (by decide) ?_
    refine S_list (T_pickF (v := (vB false)) (congrArg vB c89_f) rfl ?_)
    refine sv (v := (vS oa_ (List.length O) oc_)) (x_assign rfl) ?_
    refine sv (v := (vQ b3_)) (x_assign rfl) ?_
    refine sv (v := (vB false)) (x_assign rfl) ?_
    refine wn (hK88_ _ _ ?_)
    refine C_ret ?_
    refine R_any (v := (vT #[(vS oa_ (List.length O) oc_), (vQ b3_), (vB false)])) (run_results3 rfl rfl rfl rfl) ?_
    have H91_ := Holds.pkF H14_ [2, 1, 0] 0
    exact ⟨R1, _, _, rfl, hsR1, (.inr ⟨oa_, oc_, O, b3_, pv, P, false, rfl, rfl, (hPq), (hF), (by omega), (fun h => by first | (cases h; done) | (have h__ := of_decide_eq_true h; omega))⟩), S15_, H91_⟩
end Go.Proofs.Ytlnihndjepjagaa
