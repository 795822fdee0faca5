/- Words, and proved steps, on which the proof leans. -/
import Derived.Test.YtlnihndjepjagaaGreatGc4
set_option linter.unusedVariables false
set_option linter.unusedSimpArgs false
namespace Go.Proofs.YtlnihndjepjagaaGreat
open Go Go.RowKit Gw Tryz
open Go.Value renaming int → vI, bool → vB, slice → vS, pointer → vP, agg → vA, tuple → vT

set_option maxHeartbeats 1600000 in
theorem grNewIv (R : HP) (i1 i2 : ByteArray) :
    Tri Tryz.prog 83 #[(Value.string i1), (Value.string i2)] R [] (fun v__ post__ => v__ = (vA #[(Value.iface 222 (Value.string i1)), (Value.iface 222 (Value.string i2))]) ∧ post__ = []) := by
 refine Tri.into (n := 10) (al := [(Value.string i1), (Value.string i2)]) func83 rfl ntmps83 rfl rfl fun w F H => ?_
 refine cr fun _ hK1_ => ?_
 refine S_list (T_alloc z177 H ?_)
 intro b2_ w3_ S5_ H4_
 have S6_ := Same.trans (Same.refl w) S5_
 refine wn (hK1_ _ _ ?_)
 refine cr fun _ hK7_ => ?_
 refine sm (Value.string i1) ?_
 refine sv (v := (Value.iface 222 (Value.string i1))) (by kernel_rfl) ?_
 refine sm (Value.string i2) ?_
 refine sv (v := (Value.iface 222 (Value.string i2))) (by kernel_rfl) ?_
 refine sv (v := (vA #[(Value.iface 222 (Value.string i1)), (Value.iface 222 (Value.string i2))])) (by kernel_rfl) ?_
 refine S_list0 (T_storeN (vs := [(Value.iface 222 (Value.string i1)), (Value.iface 222 (Value.string i2))]) rfl rfl z177 rfl (by simp [Value.oneCell']) H4_ 0 rfl (Nat.le_of_ble_eq_true (by rfl)) ?_)
 intro w8_ S10_ H9_
 have S11_ := Same.trans S6_ S10_
 refine wn (hK7_ _ _ ?_)
 refine C_ret ?_
 refine R_any (v := (vA #[(Value.iface 222 (Value.string i1)), (Value.iface 222 (Value.string i2))])) (run_results1 rfl ⟨_, rfl, load_resN underlying177 rfl z177 rfl (vs := [(Value.iface 222 (Value.string i1)), (Value.iface 222 (Value.string i2))]) (Holds.cl_cells H9_ 0 rfl 0 rfl)⟩) ?_
 have H12_ := Holds.pkF H9_ [1] 1
 exact ⟨_, _, rfl, ⟨rfl, rfl⟩, S11_, H12_⟩

set_option maxHeartbeats 16000000 in
theorem ggAdd (R : HP) (zb kb tb sb wb ib : Nat) (cnt : Int) (PM : List (Nat × GW)) (KM : List (ByteArray × Value)) (S : List Nat) (W : TR) (a : Nat) (x : GW) (hw : WNew R a x) (hf : a ∉ (List.map Prod.fst PM)) (hG : GSt R PM KM S W) (hcn : cnt = (List.length (ino W) : Int) ∧ (ino W).length ≤ List.length PM) (hpl : PM.length ≤ 100000) :
    Tri Tryz.prog 65 #[(vQ zb), (vQ a)] R [cl zb 97 [(Value.map (some kb)), (Value.iface 183 (vQ tb)), (Value.map (some wb)), (Value.map (some ib))], mp Value.string kb KM, setsP (List.map Prod.fst PM) S, cl tb 185 [(vQ (rt sb W)), (vI .i64 cnt), (vQ sb)], tr sb sb W, clf sb 182 [(Value.nilIface), (Value.nilIface), (Value.nilIface), (Value.nilIface), (vP none), (vP none), (vP none), (vI .i64 0)], mp pn wb (aggm PM)] (fun v__ post__ => ∃ (KM' : List (ByteArray × Value)) (S' : List Nat) (W' : TR) (cnt' : Int), v__ = (vT #[]) ∧ post__ = [cl zb 97 [(Value.map (some kb)), (Value.iface 183 (vQ tb)), (Value.map (some wb)), (Value.map (some ib))], mp Value.string kb KM', setsP (List.map Prod.fst (PM ++ [(a, x)])) S', cl tb 185 [(vQ (rt sb W')), (vI .i64 cnt'), (vQ sb)], tr sb sb W', clf sb 182 [(Value.nilIface), (Value.nilIface), (Value.nilIface), (Value.nilIface), (vP none), (vP none), (vP none), (vI .i64 0)], mp pn wb (aggm (PM ++ [(a, x)]))] ∧ (GSt R (PM ++ [(a, x)]) KM' S' W') ∧ (cnt' = (List.length (ino W') : Int) ∧ (ino W').length ≤ List.length (PM ++ [(a, x)]))) := by
 have hw0 := hw
 have hal := hw.alv
 obtain ⟨kv, ev, cn, hwc, hkv, hev⟩ := hw
 have hrc := RC.of_cells hwc
 refine Tri.into (n := 62) (al := [(vQ zb), (vQ a)]) func65 rfl ntmps65 rfl rfl fun w F H => ?_
 refine cr fun _ hK1_ => ?_
 refine sm (vQ zb) ?_
 refine sv (v := (vQ zb)) (by kernel_rfl) ?_
 refine sv (v := (vP (some ⟨zb, 2, none⟩))) (by kernel_rfl) ?_
 refine sv (v := (Value.map (some wb))) (x_load1 rfl underlying91 rfl ((Holds.rd H 1 rfl) 2 (Value.map (some wb)) rfl)) ?_
 refine sm (vQ a) ?_
 have H3_ := ((Holds.bring (Holds.bring H 7 rfl) 1 rfl) :)
 refine S_list (T_call (al := [(Value.map (some wb)), (vQ a)]) (pre := [mp pn wb (aggm PM)]) rfl rfl cb81 (gsAdd R wb a (aggm PM) (hal) ((fun p hp => by obtain ⟨q, hq, rfl⟩ := List.mem_map.1 hp; exact (hG.w q hq).alv)) ((fun p hp e => by obtain ⟨q, hq, rfl⟩ := List.mem_map.1 hp; exact hf (List.mem_map.2 ⟨q, hq, e⟩)))) H3_ ?_)
 rintro v2_ p7_ w4_ ⟨rfl, rfl⟩ S6_ H5_
 have S8_ := Same.trans (Same.refl w) S6_
 refine wn (hK1_ _ _ ?_)
 refine C_seq (fun _ hK9_ => ?_)
 refine cr fun _ hK10_ => ?_
 refine sm (vQ a) ?_
 refine sv (v := (vQ a)) (by kernel_rfl) ?_
 refine sv (v := (vP (some ⟨a, 1, none⟩))) (by kernel_rfl) ?_
 rcases hev with ⟨hx, rfl⟩ | ⟨hx, ea, em, ec, rfl, hes⟩
 ·skip
  refine sv (v := (vS none 0 0)) (x_load1 rfl underlying101 rfl (RC.cell hrc (Holds.ro_at H5_ 0 rfl) (j := 1) (u := (vS none 0 0)) (rfl))) ?_
  refine sv (v := (vB true)) (x_eqSn rfl rfl underlying101) ?_
  refine wn (hK10_ _ _ ?_)
  refine C_condT rfl ?_
  refine cr fun _ hK11_ => ?_
  refine sm (vQ zb) ?_
  refine sv (v := (vQ zb)) (by kernel_rfl) ?_
  refine sv (v := (vQ zb)) (by kernel_rfl) ?_
  refine sv (v := (Value.map (some kb))) (x_load1 rfl underlying87 rfl ((Holds.rd H5_ 2 rfl) 0 (Value.map (some kb)) rfl)) ?_
  refine sm (vQ a) ?_
  have H18_ := ((Holds.bring (Holds.bring (Holds.bring H5_ 4 rfl) 4 rfl) 2 rfl) :)
  refine S_list (T_call (al := [(Value.map (some kb)), (vQ a)]) (pre := [mp Value.string kb KM, setsP (List.map Prod.fst PM) S]) rfl rfl cb82 (gkAdd R kb a KM (List.map Prod.fst PM) S x (hw0) ((fun p hp => by obtain ⟨q, hq, e⟩ := List.mem_map.1 hp; rw [← e]; exact (hG.w q hq).alv)) (hf) (hG.k)) H18_ ?_)
  rintro v12_ p22_ w19_ ⟨KM13_, S14_, rfl, rfl, he15_, he16_, he17_⟩ S21_ H20_
  have S23_ := Same.trans S8_ S21_
  refine wn (hK11_ _ _ ?_)
  refine C_ret (X_thenR ?_)
  refine R_0r rfl ?_
  have H24_ : Holds w19_ (ro R :: mp Value.string kb KM13_ :: setsP ((List.map Prod.fst PM) ++ [a]) S14_ :: mp pn wb ((aggm PM) ++ [(a, vA #[])]) :: cl zb 97 [(Value.map (some kb)), (Value.iface 183 (vQ tb)), (Value.map (some wb)), (Value.map (some ib))] :: cl tb 185 [(vQ (rt sb W)), (vI .i64 cnt), (vQ sb)] :: tr sb sb W :: clf sb 182 [(Value.nilIface), (Value.nilIface), (Value.nilIface), (Value.nilIface), (vP none), (vP none), (vP none), (vI .i64 0)] :: F) := (H20_)
  have H25_ := H24_; rw [← fst_snoc (x := x), ← agg_snoc (x := x)] at H25_
  have H26_ := Holds.pkF H25_ [0, 3, 0, 0, 1, 1, 1, 0] 0
  exact ⟨_, _, rfl, ⟨KM13_, S14_, W, cnt, rfl, rfl, (hG.addKey hw0 hx he15_ he16_ he17_), (⟨hcn.1, by rw [List.length_append]; omega⟩)⟩, S23_, H26_⟩
 ·skip
  refine sv (v := (vS (some ea) em ec)) (x_load1 rfl underlying101 rfl (RC.cell hrc (Holds.ro_at H5_ 0 rfl) (j := 1) (u := (vS (some ea) em ec)) (rfl))) ?_
  refine sv (v := (vB false)) (x_eqSl rfl rfl underlying101) ?_
  refine wn (hK10_ _ _ ?_)
  refine C_condF rfl ?_
  refine C_skip (X_then (hK9_ _ _ ?_))
  refine C_seq (fun _ hK27_ => ?_)
  refine A_start (S := fun w => MpRd pn wb ((aggm PM) ++ [(a, vA #[])]) w ∧ Rd zb [(Value.map (some kb)), (Value.iface 183 (vQ tb)), (Value.map (some wb)), (Value.map (some ib))] w ∧ MpRd Value.string kb KM w ∧ Rd tb [(vQ (rt sb W)), (vI .i64 cnt), (vQ sb)] w ∧ RtRd w (rt sb W) (rmx W) ∧ (Rd sb [(Value.nilIface), (Value.nilIface), (Value.nilIface), (Value.nilIface), (vP none), (vP none), (vP none), (vI .i64 0)] w ∧ Blk w sb) ∧ Sub R (hp w)) (N := 13) foll rfl rfl ?_
  have H28_ := Holds.drew_ H5_
  refine A_cut #[true, true, true, true, true, true, true, true, true, true, true, true, false] 1 (fun a__ w1__ => ∃ b36_ : Nat, ∃ h : Env, a__ = mkA 62 (upd (upd (upd (upd h 0 (vQ zb)) 1 (vQ a)) 4 (vQ b36_)) 34 (vA #[(Value.iface 222 (Value.string (strN (ints x.key)))), (Value.iface 222 (Value.string (strN (ints x.end_))))])) [] ∧ Holds w1__ (cl b36_ 177 [(Value.nilIface), (Value.nilIface)] :: ro R :: mp pn wb ((aggm PM) ++ [(a, vA #[])]) :: cl zb 97 [(Value.map (some kb)), (Value.iface 183 (vQ tb)), (Value.map (some wb)), (Value.map (some ib))] :: mp Value.string kb KM :: setsP (List.map Prod.fst PM) S :: cl tb 185 [(vQ (rt sb W)), (vI .i64 cnt), (vQ sb)] :: tr sb sb W :: clf sb 182 [(Value.nilIface), (Value.nilIface), (Value.nilIface), (Value.nilIface), (vP none), (vP none), (vP none), (vI .i64 0)] :: F) ∧ Same w w1__) ?_ ?_
  ·rintro _ w86_ ⟨b36_, h, rfl, H87_, S88_⟩
   refine A_ready (i := 12) (rs := []) (by kernel_rfl) ?_
   refine AllR.cons ?_ AllR.nil
   refine A_op0 (ls' := #[true, true, true, true, true, true, true, true, true, true, true, true, true]) rfl (by kernel_rfl) (T_storeN (vs := [(Value.iface 222 (Value.string (strN (ints x.key)))), (Value.iface 222 (Value.string (strN (ints x.end_))))]) rfl rfl z177 rfl (by simp [Value.oneCell']) H87_ 0 rfl (Nat.le_of_ble_eq_true (by rfl)) ?_)
   intro w89_ S91_ H90_
   have S92_ := Same.trans S88_ S91_
   refine ⟨⟨Holds.mprd H90_ 2 rfl, Holds.rd H90_ 3 rfl, Holds.mprd H90_ 4 rfl, Holds.rd H90_ 6 rfl, Holds.tr_rd H90_ 7 rfl 8 rfl, (And.intro (Holds.rdf H90_ 8 rfl) (Holds.blk H90_ 8 rfl)), (Holds.ro_at H90_ 1 rfl)⟩, ?_⟩
   refine A_done (by kernel_rfl) ?_
   refine (X_then (hK27_ _ _ ?_))
   refine C_seq (fun _ hK93_ => ?_)
   refine C_seq (fun _ hK94_ => ?_)
   refine A_start (S := fun w => Rd b36_ [(Value.iface 222 (Value.string (strN (ints x.key)))), (Value.iface 222 (Value.string (strN (ints x.end_))))] w ∧ MpRd pn wb ((aggm PM) ++ [(a, vA #[])]) w ∧ Rd zb [(Value.map (some kb)), (Value.iface 183 (vQ tb)), (Value.map (some wb)), (Value.map (some ib))] w ∧ MpRd Value.string kb KM w ∧ Rd tb [(vQ (rt sb W)), (vI .i64 cnt), (vQ sb)] w ∧ Sub R (hp w)) (N := 7) foll rfl rfl ?_
   have H95_ := Holds.drew_ H90_
   have hq96_ := And.intro (Holds.rd H95_ 0 rfl) (And.intro (Holds.mprd H95_ 2 rfl) (And.intro (Holds.rd H95_ 3 rfl) (And.intro (Holds.mprd H95_ 4 rfl) (And.intro (Holds.rd H95_ 6 rfl) ((Holds.ro_at H95_ 1 rfl))))))
   refine A_tk 0 (v := (vQ zb)) rfl (by kernel_rfl) (fun w hS => x_move rfl) hq96_ ?_
   refine A_tk 1 (v := (vQ zb)) rfl (by kernel_rfl) (fun w hS => by kernel_rfl) hq96_ ?_
   refine A_tk 2 (v := (vP (some ⟨zb, 1, none⟩))) rfl (by kernel_rfl) (fun w hS => by kernel_rfl) hq96_ ?_
   refine A_tk 3 (v := (Value.iface 183 (vQ tb))) rfl (by kernel_rfl) (fun w hS => x_load1 rfl underlying89 rfl (hS.2.2.1 1 (Value.iface 183 (vQ tb)) rfl)) hq96_ ?_
   refine A_tk 4 (v := (vA #[(Value.iface 222 (Value.string (strN (ints x.key)))), (Value.iface 222 (Value.string (strN (ints x.end_))))])) rfl (by kernel_rfl) (fun w hS => x_loadN (vs := [(Value.iface 222 (Value.string (strN (ints x.key)))), (Value.iface 222 (Value.string (strN (ints x.end_))))]) rfl underlying177 rfl z177 rfl (Rd.cells hS.1 0 rfl)) hq96_ ?_
   refine A_ready (i := 5) (rs := []) (by kernel_rfl) ?_
   refine AllR.cons ?_ AllR.nil
   have H105_ := ((Holds.bring (Holds.bring (Holds.bring (Holds.bring H95_ 8 rfl) 8 rfl) 8 rfl) 4 rfl) :)
   refine A_op (ls' := #[true, true, true, true, true, true, false]) rfl (by kernel_rfl) (T_invoke (al := [(vQ tb), (vA #[((Value.iface 222 (Value.string (strN (ints x.key))))), ((Value.iface 222 (Value.string (strN (ints x.end_)))))])]) (pre := [cl tb 185 [(vQ (rt sb W)), (vI .i64 cnt), (vQ sb)], tr sb sb W, clf sb 182 [(Value.nilIface), (Value.nilIface), (Value.nilIface), (Value.nilIface), (vP none), (vP none), (vP none), (vI .i64 0)]]) rfl (fun w => by kernel_rfl) (lcons rfl (lcons (congrArg (fun l => vA (List.toArray l)) (lcons (rfl : (Value.iface 222 (Value.string (strN (ints x.key)))) = ((Value.iface 222 (Value.string (strN (ints x.key)))))) (lcons (rfl : (Value.iface 222 (Value.string (strN (ints x.end_)))) = ((Value.iface 222 (Value.string (strN (ints x.end_)))))) rfl))) rfl)) cb155 (itFind R (List UInt8) AO tb sb cnt [(Value.nilIface), (Value.nilIface), (Value.nilIface), (Value.nilIface), (vP none), (vP none), (vP none), (vI .i64 0)] W 222 222 (Value.string (strN (ints x.key))) (Value.string (strN (ints x.end_))) x.key.data.toList x.end_.data.toList (hG.t.ok.1) (hG.t.s) ((by rw [strI]; exact av _)) ((by rw [strI]; exact av _))) H105_ ?_)
   rintro v97_ p109_ w106_ hq110_ S108_ H107_
   rcases hq110_ with ⟨rfl, rfl, he98_⟩ | ⟨C99_, n100_, a101_, b102_, rfl, rfl, he103_, he104_⟩
   ·skip
    have S111_ := Same.trans (Same.trans S92_ (Same.drew _)) S108_
    refine ⟨⟨Holds.rd H107_ 4 rfl, Holds.mprd H107_ 5 rfl, Holds.rd H107_ 6 rfl, Holds.mprd H107_ 7 rfl, Holds.rd H107_ 1 rfl, (Holds.ro_at H107_ 0 rfl)⟩, ?_⟩
    have hq116_ := And.intro (Holds.rd H107_ 4 rfl) (And.intro (Holds.mprd H107_ 5 rfl) (And.intro (Holds.rd H107_ 6 rfl) (And.intro (Holds.mprd H107_ 7 rfl) (And.intro (Holds.rd H107_ 1 rfl) ((Holds.ro_at H107_ 0 rfl))))))
    refine A_tk 6 (v := (vP none)) rfl (by kernel_rfl) (fun w hS => x_assign rfl) hq116_ ?_
    refine A_done (by kernel_rfl) ?_
    refine (X_then (hK94_ _ _ ?_))
    refine cr fun _ hK117_ => ?_
    refine sm (vP none) ?_
    refine sv (v := (vB false)) (by kernel_rfl) ?_
    refine wn (hK117_ _ _ ?_)
    refine C_condF rfl ?_
    refine C_skip (X_then (hK93_ _ _ ?_))
    refine cr fun _ hK118_ => ?_
    refine S_list (T_makeMap pn H107_ ?_)
    intro b119_ w120_ S122_ H121_
    have S123_ := Same.trans S111_ S122_
    refine sv (v := (Value.map (some b119_))) (x_assign rfl) ?_
    refine wn (hK118_ _ _ ?_)
    refine cr fun _ hK124_ => ?_
    refine sm (Value.map (some b119_)) ?_
    refine sm (vQ a) ?_
    have H126_ := ((Holds.bring H121_ 1 rfl) :)
    refine S_list (T_call (al := [(Value.map (some b119_)), (vQ a)]) (pre := [mp pn b119_ []]) rfl rfl cb81 (gsAdd R b119_ a [] (hal) ((fun p hp => by cases hp)) ((fun p hp => by cases hp))) H126_ ?_)
    rintro v125_ p130_ w127_ ⟨rfl, rfl⟩ S129_ H128_
    have S131_ := Same.trans S123_ S129_
    have H132_ := ((Holds.bring (Holds.bring H128_ 9 rfl) 2 rfl) :)
    have H133_ := Holds.set_new H132_
    have H134_ := H133_
    refine wn (hK124_ _ _ ?_)
    refine A_start (S := fun w => Rd b36_ [(Value.iface 222 (Value.string (strN (ints x.key)))), (Value.iface 222 (Value.string (strN (ints x.end_))))] w ∧ MpRd pn wb ((aggm PM) ++ [(a, vA #[])]) w ∧ Rd zb [(Value.map (some kb)), (Value.iface 183 (vQ tb)), (Value.map (some wb)), (Value.map (some ib))] w ∧ MpRd Value.string kb KM w ∧ Sub R (hp w)) (N := 8) foll rfl rfl ?_
    have H135_ := Holds.drew_ H134_
    have hq156_ := And.intro (Holds.rd H135_ 5 rfl) (And.intro (Holds.mprd H135_ 6 rfl) (And.intro (Holds.rd H135_ 7 rfl) (And.intro (Holds.mprd H135_ 8 rfl) ((Holds.ro_at H135_ 1 rfl)))))
    refine A_tk 0 (v := (vQ zb)) rfl (by kernel_rfl) (fun w hS => x_move rfl) hq156_ ?_
    refine A_tk 1 (v := (vQ zb)) rfl (by kernel_rfl) (fun w hS => by kernel_rfl) hq156_ ?_
    refine A_tk 2 (v := (vP (some ⟨zb, 1, none⟩))) rfl (by kernel_rfl) (fun w hS => by kernel_rfl) hq156_ ?_
    refine A_tk 3 (v := (Value.iface 183 (vQ tb))) rfl (by kernel_rfl) (fun w hS => x_load1 rfl underlying89 rfl (hS.2.2.1 1 (Value.iface 183 (vQ tb)) rfl)) hq156_ ?_
    refine A_tk 4 (v := (vA #[(Value.iface 222 (Value.string (strN (ints x.key)))), (Value.iface 222 (Value.string (strN (ints x.end_))))])) rfl (by kernel_rfl) (fun w hS => x_loadN (vs := [(Value.iface 222 (Value.string (strN (ints x.key)))), (Value.iface 222 (Value.string (strN (ints x.end_))))]) rfl underlying177 rfl z177 rfl (Rd.cells hS.1 0 rfl)) hq156_ ?_
    refine A_tk 5 (v := (Value.map (some b119_))) rfl (by kernel_rfl) (fun w hS => x_move rfl) hq156_ ?_
    refine A_tk 6 (v := (Value.iface 91 (Value.map (some b119_)))) rfl (by kernel_rfl) (fun w hS => by kernel_rfl) hq156_ ?_
    refine A_ready (i := 7) (rs := []) (by kernel_rfl) ?_
    refine AllR.cons ?_ AllR.nil
    have H169_ := ((Holds.bring (Holds.bring (Holds.bring (Holds.bring H135_ 4 rfl) 4 rfl) 4 rfl) 4 rfl) :)
    refine A_op (ls' := #[true, true, true, true, true, true, true, true]) rfl (by kernel_rfl) (T_invoke (al := [(vQ tb), (vA #[((Value.iface 222 (Value.string (strN (ints x.key))))), ((Value.iface 222 (Value.string (strN (ints x.end_)))))]), ((Value.iface 91 (Value.map (some b119_))))]) (pre := [cl tb 185 [(vQ (rt sb W)), (vI .i64 cnt), (vQ sb)], tr sb sb W, clf sb 182 [(Value.nilIface), (Value.nilIface), (Value.nilIface), (Value.nilIface), (vP none), (vP none), (vP none), (vI .i64 0)]]) rfl (fun w => by kernel_rfl) (lcons rfl (lcons (congrArg (fun l => vA (List.toArray l)) (lcons (rfl : (Value.iface 222 (Value.string (strN (ints x.key)))) = ((Value.iface 222 (Value.string (strN (ints x.key)))))) (lcons (rfl : (Value.iface 222 (Value.string (strN (ints x.end_)))) = ((Value.iface 222 (Value.string (strN (ints x.end_)))))) rfl))) (lcons (rfl : (Value.iface 91 (Value.map (some b119_))) = ((Value.iface 91 (Value.map (some b119_))))) rfl))) cb157 (itInsert R (List UInt8) AO tb sb cnt [(Value.nilIface), (Value.nilIface), (Value.nilIface), (Value.nilIface), (vP none), (vP none), (vP none), (vI .i64 0)] W 222 222 91 (Value.string (strN (ints x.key))) (Value.string (strN (ints x.end_))) (Value.map (some b119_)) x.key.data.toList x.end_.data.toList (hG.t.ok) ((by rw [strI]; exact av _)) ((by rw [strI]; exact av _)) (⟨by omega, by omega⟩) (hG.t.s)) H169_ ?_)
    rintro v157_ p173_ w170_ ⟨W158_, L1159_, L2160_, z161_, rfl, rfl, he162_, he163_, he164_, he165_, he166_, he167_, he168_⟩ S172_ H171_
    have S174_ := Same.trans (Same.trans S131_ (Same.drew _)) S172_
    refine ⟨⟨Holds.rd H171_ 5 rfl, Holds.mprd H171_ 6 rfl, Holds.rd H171_ 7 rfl, Holds.mprd H171_ 8 rfl, (Holds.ro_at H171_ 0 rfl)⟩, ?_⟩
    refine A_done (by kernel_rfl) ?_
    refine R_0 rfl ?_
    have H175_ : Holds w170_ (ro R :: cl tb 185 [(vQ (rt sb W158_)), (vI .i64 (cnt + 1)), (vQ sb)] :: tr sb sb W158_ :: clf sb 182 [(Value.nilIface), (Value.nilIface), (Value.nilIface), (Value.nilIface), (vP none), (vP none), (vP none), (vI .i64 0)] :: setsP ((List.map Prod.fst PM) ++ [a]) (b119_ :: S) :: cl b36_ 177 [(Value.iface 222 (Value.string (strN (ints x.key)))), (Value.iface 222 (Value.string (strN (ints x.end_))))] :: mp pn wb ((aggm PM) ++ [(a, vA #[])]) :: cl zb 97 [(Value.map (some kb)), (Value.iface 183 (vQ tb)), (Value.map (some wb)), (Value.map (some ib))] :: mp Value.string kb KM :: F) := (H171_)
    have H176_ := H175_; rw [← fst_snoc (x := x), ← agg_snoc (x := x)] at H176_
    have H177_ := Holds.pkF H176_ [0, 6, 6, 3, 0, 0, 0, 1] 1
    exact ⟨_, _, rfl, ⟨KM, (b119_ :: S), W158_, cnt + 1, rfl, rfl, (hG.addNew hw0 hx he162_ he163_ he164_ he165_ he166_), (cnt_ins he163_ he164_ hcn)⟩, S174_, H177_⟩
   ·skip
    have S112_ := Same.trans (Same.trans S92_ (Same.drew _)) S108_
    have f113_m : n100_.er ∈ ino W := by rw [← he103_, ino_plug]; simp [ino]
    obtain ⟨f113_b, f113_b_, f113_v⟩ := hG.t.v _ f113_m
    replace f113_v : n100_.v = _ := f113_v
    have H114_ : Holds w106_ (ro R :: cl tb 185 [(vQ (rt sb W)), (vI .i64 cnt), (vQ sb)] :: clf n100_.a 182 [n100_.b, n100_.e, n100_.v, n100_.mx, (vQ (rt sb a101_)), (vQ (rt sb b102_)), (vQ (pa sb C99_)), (vI .i64 n100_.c)] :: tr sb n100_.a a101_ :: tr sb n100_.a b102_ :: cx sb n100_.a C99_ :: clf sb 182 [(Value.nilIface), (Value.nilIface), (Value.nilIface), (Value.nilIface), (vP none), (vP none), (vP none), (vI .i64 0)] :: cl b36_ 177 [(Value.iface 222 (Value.string (strN (ints x.key)))), (Value.iface 222 (Value.string (strN (ints x.end_))))] :: mp pn wb ((aggm PM) ++ [(a, vA #[])]) :: cl zb 97 [(Value.map (some kb)), (Value.iface 183 (vQ tb)), (Value.map (some wb)), (Value.map (some ib))] :: mp Value.string kb KM :: setsP (List.map Prod.fst PM) S :: F) := (H107_)
    have H115_ := H114_; rw [f113_v] at H115_
    refine ⟨⟨Holds.rd H115_ 7 rfl, Holds.mprd H115_ 8 rfl, Holds.rd H115_ 9 rfl, Holds.mprd H115_ 10 rfl, Holds.rd H115_ 1 rfl, (Holds.ro_at H115_ 0 rfl)⟩, ?_⟩
    have hq178_ := And.intro (Holds.rd H115_ 7 rfl) (And.intro (Holds.mprd H115_ 8 rfl) (And.intro (Holds.rd H115_ 9 rfl) (And.intro (Holds.mprd H115_ 10 rfl) (And.intro (Holds.rd H115_ 1 rfl) ((Holds.ro_at H115_ 0 rfl))))))
    refine A_tk 6 (v := (vQ n100_.a)) rfl (by kernel_rfl) (fun w hS => x_assign rfl) hq178_ ?_
    refine A_done (by kernel_rfl) ?_
    refine (X_then (hK94_ _ _ ?_))
    refine cr fun _ hK179_ => ?_
    refine sm (vQ n100_.a) ?_
    refine sv (v := (vB true)) (by kernel_rfl) ?_
    refine wn (hK179_ _ _ ?_)
    refine C_condT rfl ?_
    refine cr fun _ hK180_ => ?_
    refine sm (vQ n100_.a) ?_
    refine sv (v := (vQ n100_.a)) (by kernel_rfl) ?_
    refine sv (v := (vP (some ⟨n100_.a, 2, none⟩))) (by kernel_rfl) ?_
    refine sv (v := (Value.iface 91 (Value.map (some f113_b)))) (x_load1 rfl underlying20 rfl ((Holds.rdf H115_ 2 rfl) 2 (Value.iface 91 (Value.map (some f113_b))) rfl)) ?_
    refine sv (v := (Value.map (some f113_b))) (by kernel_rfl) ?_
    refine sm (vQ a) ?_
    have H181_ := ((Holds.bring H115_ 11 rfl) :)
    obtain ⟨m182_, hm183_, H184_⟩ := Holds.set_out H181_ f113_b_
    have H185_ := H184_
    have H187_ := ((Holds.bring H185_ 2 rfl) :)
    refine S_list (T_call (al := [(Value.map (some f113_b)), (vQ a)]) (pre := [mp pn f113_b m182_]) rfl rfl cb81 (gsAdd R f113_b a m182_ (hal) ((fun p hp => by obtain ⟨q, hq, e⟩ := List.mem_map.1 (hm183_.1 p hp); rw [← e]; exact (hG.w q hq).alv)) ((fun p hp e => hf (e ▸ hm183_.1 p hp)))) H187_ ?_)
    rintro v186_ p191_ w188_ ⟨rfl, rfl⟩ S190_ H189_
    have S192_ := Same.trans S112_ S190_
    have H193_ := ((Holds.bring (Holds.bring H189_ 2 rfl) 2 rfl) :)
    have H194_ := Holds.set_put H193_ hm183_ hf
    have H195_ := H194_
    refine wn (hK180_ _ _ ?_)
    refine C_ret (X_thenR ?_)
    refine R_0r rfl ?_
    have H196_ : Holds w188_ (setsP ((List.map Prod.fst PM) ++ [a]) S :: ro R :: cl tb 185 [(vQ (rt sb W)), (vI .i64 cnt), (vQ sb)] :: clf n100_.a 182 [n100_.b, n100_.e, (Value.iface 91 (Value.map (some f113_b))), n100_.mx, (vQ (rt sb a101_)), (vQ (rt sb b102_)), (vQ (pa sb C99_)), (vI .i64 n100_.c)] :: tr sb n100_.a a101_ :: tr sb n100_.a b102_ :: cx sb n100_.a C99_ :: clf sb 182 [(Value.nilIface), (Value.nilIface), (Value.nilIface), (Value.nilIface), (vP none), (vP none), (vP none), (vI .i64 0)] :: cl b36_ 177 [(Value.iface 222 (Value.string (strN (ints x.key)))), (Value.iface 222 (Value.string (strN (ints x.end_))))] :: mp pn wb ((aggm PM) ++ [(a, vA #[])]) :: cl zb 97 [(Value.map (some kb)), (Value.iface 183 (vQ tb)), (Value.map (some wb)), (Value.map (some ib))] :: mp Value.string kb KM :: F) := (H195_)
    have H197_ := H196_; rw [← f113_v] at H197_
    have H198_ := ((Holds.bring (Holds.bring (Holds.bring H197_ 5 rfl) 5 rfl) 5 rfl) :)
    have H199_ := Holds.nd_tr (n := n100_) (a := a101_) (b := b102_) H198_
    have H200_ := H199_
    have H201_ := ((Holds.bring (Holds.bring H200_ 4 rfl) 1 rfl) :)
    have H202_ := Holds.plug_in (C := C99_) (t := (Tr.nd n100_ a101_ b102_)) H201_
    have H203_ := H202_; rw [he103_] at H203_
    have H204_ := H203_
    have H205_ : Holds w188_ (tr sb sb W :: setsP ((List.map Prod.fst PM) ++ [a]) S :: ro R :: cl tb 185 [(vQ (rt sb W)), (vI .i64 cnt), (vQ sb)] :: clf sb 182 [(Value.nilIface), (Value.nilIface), (Value.nilIface), (Value.nilIface), (vP none), (vP none), (vP none), (vI .i64 0)] :: cl b36_ 177 [(Value.iface 222 (Value.string (strN (ints x.key)))), (Value.iface 222 (Value.string (strN (ints x.end_))))] :: mp pn wb ((aggm PM) ++ [(a, vA #[])]) :: cl zb 97 [(Value.map (some kb)), (Value.iface 183 (vQ tb)), (Value.map (some wb)), (Value.map (some ib))] :: mp Value.string kb KM :: F) := (H204_)
    have H206_ := H205_; rw [← fst_snoc (x := x), ← agg_snoc (x := x)] at H206_
    have H207_ := Holds.pkF H206_ [2, 6, 6, 1, 1, 0, 0, 1] 1
    exact ⟨_, _, rfl, ⟨KM, S, W, cnt, rfl, rfl, (hG.addSame hw0 hx f113_m he104_), (⟨hcn.1, by rw [List.length_append]; omega⟩)⟩, S192_, H207_⟩
  intro hJ80
  refine A_cut #[true, true, true, true, true, true, true, true, true, true, true, false, false] 2 (fun a__ w1__ => ∃ h : Env, a__ = mkA 62 (upd (upd (upd h 0 (vQ zb)) 1 (vQ a)) 34 (vA #[(Value.iface 222 (Value.string (strN (ints x.key)))), (Value.iface 222 (Value.string (strN (ints x.end_))))])) [] ∧ Holds w1__ (ro R :: mp pn wb ((aggm PM) ++ [(a, vA #[])]) :: cl zb 97 [(Value.map (some kb)), (Value.iface 183 (vQ tb)), (Value.map (some wb)), (Value.map (some ib))] :: mp Value.string kb KM :: setsP (List.map Prod.fst PM) S :: cl tb 185 [(vQ (rt sb W)), (vI .i64 cnt), (vQ sb)] :: tr sb sb W :: clf sb 182 [(Value.nilIface), (Value.nilIface), (Value.nilIface), (Value.nilIface), (vP none), (vP none), (vP none), (vI .i64 0)] :: F) ∧ Same w w1__) ?_ ?_
  ·rintro _ w208_ ⟨h, rfl, H209_, S210_⟩
   refine A_ready (i := 11) (rs := []) (by kernel_rfl) ?_
   refine AllR.cons ?_ AllR.nil
   refine A_op (ls' := #[true, true, true, true, true, true, true, true, true, true, true, true, false]) rfl (by kernel_rfl) (T_alloc z177 H209_ ?_)
   intro b211_ w212_ S214_ H213_
   have S215_ := Same.trans S210_ S214_
   refine ⟨⟨Holds.mprd H213_ 2 rfl, Holds.rd H213_ 3 rfl, Holds.mprd H213_ 4 rfl, Holds.rd H213_ 6 rfl, Holds.tr_rd H213_ 7 rfl 8 rfl, (And.intro (Holds.rdf H213_ 8 rfl) (Holds.blk H213_ 8 rfl)), (Holds.ro_at H213_ 1 rfl)⟩, ?_⟩
   exact hJ80 _ _ ⟨b211_, _, congrArg (fun e => mkA 62 e []) (ch (ch (ch (ch rfl rfl) rfl) rfl) rfl), H213_, S215_⟩
  intro hJ79
  refine A_cut #[true, true, true, true, true, true, true, true, true, true, false, true, false] 2 (fun a__ w1__ => ∃ b45_ : Nat, ∃ h : Env, a__ = mkA 62 (upd (upd (upd (upd (upd h 0 (vQ zb)) 1 (vQ a)) 4 (vQ b45_)) 28 (Value.string (strN (ints x.key)))) 33 (Value.string (strN (ints x.end_)))) [] ∧ Holds w1__ (cl b45_ 177 [(Value.nilIface), (Value.nilIface)] :: ro R :: mp pn wb ((aggm PM) ++ [(a, vA #[])]) :: cl zb 97 [(Value.map (some kb)), (Value.iface 183 (vQ tb)), (Value.map (some wb)), (Value.map (some ib))] :: mp Value.string kb KM :: setsP (List.map Prod.fst PM) S :: cl tb 185 [(vQ (rt sb W)), (vI .i64 cnt), (vQ sb)] :: tr sb sb W :: clf sb 182 [(Value.nilIface), (Value.nilIface), (Value.nilIface), (Value.nilIface), (vP none), (vP none), (vP none), (vI .i64 0)] :: F) ∧ Same w w1__) ?_ ?_
  ·rintro _ w216_ ⟨b45_, h, rfl, H217_, S218_⟩
   refine A_ready (i := 10) (rs := []) (by kernel_rfl) ?_
   refine AllR.cons ?_ AllR.nil
   have H220_ := ((Holds.bring H217_ 1 rfl) :)
   refine A_op (ls' := #[true, true, true, true, true, true, true, true, true, true, true, true, false]) rfl (by kernel_rfl) (T_call (al := [(Value.string (strN (ints x.key))), (Value.string (strN (ints x.end_)))]) (pre := []) rfl rfl cb83 (grNewIv R (strN (ints x.key)) (strN (ints x.end_))) H220_ ?_)
   rintro v219_ p224_ w221_ ⟨rfl, rfl⟩ S223_ H222_
   have S225_ := Same.trans S218_ S223_
   refine ⟨⟨Holds.mprd H222_ 2 rfl, Holds.rd H222_ 3 rfl, Holds.mprd H222_ 4 rfl, Holds.rd H222_ 6 rfl, Holds.tr_rd H222_ 7 rfl 8 rfl, (And.intro (Holds.rdf H222_ 8 rfl) (Holds.blk H222_ 8 rfl)), (Holds.ro_at H222_ 0 rfl)⟩, ?_⟩
   have H226_ := Holds.pkF H222_ [1, 0, 0, 0, 0, 0, 0, 0, 0] 0
   exact hJ80 _ _ ⟨b45_, _, congrArg (fun e => mkA 62 e []) (ch (ch (ch (ch rfl rfl) rfl) rfl) rfl), H226_, S225_⟩
  intro hJ81
  refine A_cut #[true, true, true, true, true, true, true, true, true, true, false, false, false] 3 (fun a__ w1__ => ∃ h : Env, a__ = mkA 62 (upd (upd (upd (upd h 0 (vQ zb)) 1 (vQ a)) 28 (Value.string (strN (ints x.key)))) 33 (Value.string (strN (ints x.end_)))) [] ∧ Holds w1__ (ro R :: mp pn wb ((aggm PM) ++ [(a, vA #[])]) :: cl zb 97 [(Value.map (some kb)), (Value.iface 183 (vQ tb)), (Value.map (some wb)), (Value.map (some ib))] :: mp Value.string kb KM :: setsP (List.map Prod.fst PM) S :: cl tb 185 [(vQ (rt sb W)), (vI .i64 cnt), (vQ sb)] :: tr sb sb W :: clf sb 182 [(Value.nilIface), (Value.nilIface), (Value.nilIface), (Value.nilIface), (vP none), (vP none), (vP none), (vI .i64 0)] :: F) ∧ Same w w1__) ?_ ?_
  ·rintro _ w227_ ⟨h, rfl, H228_, S229_⟩
   refine A_ready (i := 10) (rs := [11]) (by kernel_rfl) ?_
   refine AllR.cons ?_ ?_
   ·skip
    refine A_op (ls' := #[true, true, true, true, true, true, true, true, true, true, true, false, false]) rfl (by kernel_rfl) (T_call (al := [(Value.string (strN (ints x.key))), (Value.string (strN (ints x.end_)))]) (pre := []) rfl rfl cb83 (grNewIv R (strN (ints x.key)) (strN (ints x.end_))) H228_ ?_)
    rintro v230_ p234_ w231_ ⟨rfl, rfl⟩ S233_ H232_
    have S235_ := Same.trans S229_ S233_
    refine ⟨⟨Holds.mprd H232_ 1 rfl, Holds.rd H232_ 2 rfl, Holds.mprd H232_ 3 rfl, Holds.rd H232_ 5 rfl, Holds.tr_rd H232_ 6 rfl 7 rfl, (And.intro (Holds.rdf H232_ 7 rfl) (Holds.blk H232_ 7 rfl)), (Holds.ro_at H232_ 0 rfl)⟩, ?_⟩
    exact hJ79 _ _ ⟨_, congrArg (fun e => mkA 62 e []) (ch (ch (ch rfl rfl) rfl) rfl), H232_, S235_⟩
   refine AllR.cons ?_ AllR.nil
   refine A_op (ls' := #[true, true, true, true, true, true, true, true, true, true, false, true, false]) rfl (by kernel_rfl) (T_alloc z177 H228_ ?_)
   intro b236_ w237_ S239_ H238_
   have S240_ := Same.trans S229_ S239_
   refine ⟨⟨Holds.mprd H238_ 2 rfl, Holds.rd H238_ 3 rfl, Holds.mprd H238_ 4 rfl, Holds.rd H238_ 6 rfl, Holds.tr_rd H238_ 7 rfl 8 rfl, (And.intro (Holds.rdf H238_ 8 rfl) (Holds.blk H238_ 8 rfl)), (Holds.ro_at H238_ 1 rfl)⟩, ?_⟩
   exact hJ81 _ _ ⟨b236_, _, congrArg (fun e => mkA 62 e []) (ch (ch (ch (ch (ch rfl rfl) rfl) rfl) rfl) rfl), H238_, S240_⟩
  intro hJ78
  refine A_cut #[true, true, true, true, true, true, true, true, false, false, false, true, false] 4 (fun a__ w1__ => ∃ b57_ : Nat, ∃ h : Env, a__ = mkA 62 (upd (upd (upd (upd (upd h 0 (vQ zb)) 1 (vQ a)) 4 (vQ b57_)) 28 (Value.string (strN (ints x.key)))) 31 (vP (some ⟨a, 1, none⟩))) [] ∧ Holds w1__ (cl b57_ 177 [(Value.nilIface), (Value.nilIface)] :: ro R :: mp pn wb ((aggm PM) ++ [(a, vA #[])]) :: cl zb 97 [(Value.map (some kb)), (Value.iface 183 (vQ tb)), (Value.map (some wb)), (Value.map (some ib))] :: mp Value.string kb KM :: setsP (List.map Prod.fst PM) S :: cl tb 185 [(vQ (rt sb W)), (vI .i64 cnt), (vQ sb)] :: tr sb sb W :: clf sb 182 [(Value.nilIface), (Value.nilIface), (Value.nilIface), (Value.nilIface), (vP none), (vP none), (vP none), (vI .i64 0)] :: F) ∧ Same w w1__) ?_ ?_
  ·rintro _ w241_ ⟨b57_, h, rfl, H242_, S243_⟩
   refine A_ready (i := 8) (rs := []) (by kernel_rfl) ?_
   refine AllR.cons ?_ AllR.nil
   refine A_op (ls' := #[true, true, true, true, true, true, true, true, true, false, false, true, false]) rfl (by kernel_rfl) (T_val (v := (vS (some ea) em ec)) (x_load1 rfl underlying101 rfl (RC.cell hrc (Holds.ro_at H242_ 1 rfl) (j := 1) (u := (vS (some ea) em ec)) (rfl))) ?_)
   refine ⟨⟨Holds.mprd H242_ 2 rfl, Holds.rd H242_ 3 rfl, Holds.mprd H242_ 4 rfl, Holds.rd H242_ 6 rfl, Holds.tr_rd H242_ 7 rfl 8 rfl, (And.intro (Holds.rdf H242_ 8 rfl) (Holds.blk H242_ 8 rfl)), (Holds.ro_at H242_ 1 rfl)⟩, ?_⟩
   have hq244_ := And.intro (Holds.mprd H242_ 2 rfl) (And.intro (Holds.rd H242_ 3 rfl) (And.intro (Holds.mprd H242_ 4 rfl) (And.intro (Holds.rd H242_ 6 rfl) (And.intro (Holds.tr_rd H242_ 7 rfl 8 rfl) (And.intro ((And.intro (Holds.rdf H242_ 8 rfl) (Holds.blk H242_ 8 rfl))) ((Holds.ro_at H242_ 1 rfl)))))))
   refine A_tk 9 (v := (Value.string (strN (ints x.end_)))) rfl (by kernel_rfl) (fun w hS => x_b2sRS rfl hes hS.2.2.2.2.2.2 underlying101 underlying5 underlying9) hq244_ ?_
   exact hJ81 _ _ ⟨b57_, _, congrArg (fun e => mkA 62 e []) (ch (ch (ch (ch (ch rfl rfl) rfl) rfl) rfl) rfl), H242_, S243_⟩
  intro hJ82
  refine A_cut #[true, true, true, false, false, true, true, true, true, true, false, true, false] 4 (fun a__ w1__ => ∃ b63_ : Nat, ∃ h : Env, a__ = mkA 62 (upd (upd (upd (upd (upd h 0 (vQ zb)) 1 (vQ a)) 4 (vQ b63_)) 26 (vQ a)) 33 (Value.string (strN (ints x.end_)))) [] ∧ Holds w1__ (cl b63_ 177 [(Value.nilIface), (Value.nilIface)] :: ro R :: mp pn wb ((aggm PM) ++ [(a, vA #[])]) :: cl zb 97 [(Value.map (some kb)), (Value.iface 183 (vQ tb)), (Value.map (some wb)), (Value.map (some ib))] :: mp Value.string kb KM :: setsP (List.map Prod.fst PM) S :: cl tb 185 [(vQ (rt sb W)), (vI .i64 cnt), (vQ sb)] :: tr sb sb W :: clf sb 182 [(Value.nilIface), (Value.nilIface), (Value.nilIface), (Value.nilIface), (vP none), (vP none), (vP none), (vI .i64 0)] :: F) ∧ Same w w1__) ?_ ?_
  ·rintro _ w245_ ⟨b63_, h, rfl, H246_, S247_⟩
   refine A_ready (i := 3) (rs := []) (by kernel_rfl) ?_
   refine AllR.cons ?_ AllR.nil
   refine A_op (ls' := #[true, true, true, true, false, true, true, true, true, true, false, true, false]) rfl (by kernel_rfl) (T_val (v := kv) (x_load1 rfl underlying101 rfl (RC.cell hrc (Holds.ro_at H246_ 1 rfl) (j := 0) (u := kv) (rfl))) ?_)
   refine ⟨⟨Holds.mprd H246_ 2 rfl, Holds.rd H246_ 3 rfl, Holds.mprd H246_ 4 rfl, Holds.rd H246_ 6 rfl, Holds.tr_rd H246_ 7 rfl 8 rfl, (And.intro (Holds.rdf H246_ 8 rfl) (Holds.blk H246_ 8 rfl)), (Holds.ro_at H246_ 1 rfl)⟩, ?_⟩
   have hq248_ := And.intro (Holds.mprd H246_ 2 rfl) (And.intro (Holds.rd H246_ 3 rfl) (And.intro (Holds.mprd H246_ 4 rfl) (And.intro (Holds.rd H246_ 6 rfl) (And.intro (Holds.tr_rd H246_ 7 rfl 8 rfl) (And.intro ((And.intro (Holds.rdf H246_ 8 rfl) (Holds.blk H246_ 8 rfl))) ((Holds.ro_at H246_ 1 rfl)))))))
   refine A_tk 4 (v := (Value.string (strN (ints x.key)))) rfl (by kernel_rfl) (fun w hS => x_b2sRS rfl hkv hS.2.2.2.2.2.2 underlying101 underlying5 underlying9) hq248_ ?_
   exact hJ81 _ _ ⟨b63_, _, congrArg (fun e => mkA 62 e []) (ch (ch (ch (ch (ch rfl rfl) rfl) rfl) rfl) rfl), H246_, S247_⟩
  intro hJ84
  refine A_cut #[true, true, true, true, true, true, true, true, false, false, false, false, false] 5 (fun a__ w1__ => ∃ h : Env, a__ = mkA 62 (upd (upd (upd (upd h 0 (vQ zb)) 1 (vQ a)) 28 (Value.string (strN (ints x.key)))) 31 (vP (some ⟨a, 1, none⟩))) [] ∧ Holds w1__ (ro R :: mp pn wb ((aggm PM) ++ [(a, vA #[])]) :: cl zb 97 [(Value.map (some kb)), (Value.iface 183 (vQ tb)), (Value.map (some wb)), (Value.map (some ib))] :: mp Value.string kb KM :: setsP (List.map Prod.fst PM) S :: cl tb 185 [(vQ (rt sb W)), (vI .i64 cnt), (vQ sb)] :: tr sb sb W :: clf sb 182 [(Value.nilIface), (Value.nilIface), (Value.nilIface), (Value.nilIface), (vP none), (vP none), (vP none), (vI .i64 0)] :: F) ∧ Same w w1__) ?_ ?_
  ·rintro _ w249_ ⟨h, rfl, H250_, S251_⟩
   refine A_ready (i := 8) (rs := [11]) (by kernel_rfl) ?_
   refine AllR.cons ?_ ?_
   ·skip
    refine A_op (ls' := #[true, true, true, true, true, true, true, true, true, false, false, false, false]) rfl (by kernel_rfl) (T_val (v := (vS (some ea) em ec)) (x_load1 rfl underlying101 rfl (RC.cell hrc (Holds.ro_at H250_ 0 rfl) (j := 1) (u := (vS (some ea) em ec)) (rfl))) ?_)
    refine ⟨⟨Holds.mprd H250_ 1 rfl, Holds.rd H250_ 2 rfl, Holds.mprd H250_ 3 rfl, Holds.rd H250_ 5 rfl, Holds.tr_rd H250_ 6 rfl 7 rfl, (And.intro (Holds.rdf H250_ 7 rfl) (Holds.blk H250_ 7 rfl)), (Holds.ro_at H250_ 0 rfl)⟩, ?_⟩
    have hq252_ := And.intro (Holds.mprd H250_ 1 rfl) (And.intro (Holds.rd H250_ 2 rfl) (And.intro (Holds.mprd H250_ 3 rfl) (And.intro (Holds.rd H250_ 5 rfl) (And.intro (Holds.tr_rd H250_ 6 rfl 7 rfl) (And.intro ((And.intro (Holds.rdf H250_ 7 rfl) (Holds.blk H250_ 7 rfl))) ((Holds.ro_at H250_ 0 rfl)))))))
    refine A_tk 9 (v := (Value.string (strN (ints x.end_)))) rfl (by kernel_rfl) (fun w hS => x_b2sRS rfl hes hS.2.2.2.2.2.2 underlying101 underlying5 underlying9) hq252_ ?_
    exact hJ78 _ _ ⟨_, congrArg (fun e => mkA 62 e []) (ch (ch (ch (ch rfl rfl) rfl) rfl) rfl), H250_, S251_⟩
   refine AllR.cons ?_ AllR.nil
   refine A_op (ls' := #[true, true, true, true, true, true, true, true, false, false, false, true, false]) rfl (by kernel_rfl) (T_alloc z177 H250_ ?_)
   intro b253_ w254_ S256_ H255_
   have S257_ := Same.trans S251_ S256_
   refine ⟨⟨Holds.mprd H255_ 2 rfl, Holds.rd H255_ 3 rfl, Holds.mprd H255_ 4 rfl, Holds.rd H255_ 6 rfl, Holds.tr_rd H255_ 7 rfl 8 rfl, (And.intro (Holds.rdf H255_ 8 rfl) (Holds.blk H255_ 8 rfl)), (Holds.ro_at H255_ 1 rfl)⟩, ?_⟩
   exact hJ82 _ _ ⟨b253_, _, congrArg (fun e => mkA 62 e []) (ch (ch (ch (ch (ch rfl rfl) rfl) rfl) rfl) rfl), H255_, S257_⟩
  intro hJ77
  refine A_cut #[true, true, true, false, false, true, true, true, true, true, false, false, false] 5 (fun a__ w1__ => ∃ h : Env, a__ = mkA 62 (upd (upd (upd (upd h 0 (vQ zb)) 1 (vQ a)) 26 (vQ a)) 33 (Value.string (strN (ints x.end_)))) [] ∧ Holds w1__ (ro R :: mp pn wb ((aggm PM) ++ [(a, vA #[])]) :: cl zb 97 [(Value.map (some kb)), (Value.iface 183 (vQ tb)), (Value.map (some wb)), (Value.map (some ib))] :: mp Value.string kb KM :: setsP (List.map Prod.fst PM) S :: cl tb 185 [(vQ (rt sb W)), (vI .i64 cnt), (vQ sb)] :: tr sb sb W :: clf sb 182 [(Value.nilIface), (Value.nilIface), (Value.nilIface), (Value.nilIface), (vP none), (vP none), (vP none), (vI .i64 0)] :: F) ∧ Same w w1__) ?_ ?_
  ·rintro _ w258_ ⟨h, rfl, H259_, S260_⟩
   refine A_ready (i := 3) (rs := [11]) (by kernel_rfl) ?_
   refine AllR.cons ?_ ?_
   ·skip
    refine A_op (ls' := #[true, true, true, true, false, true, true, true, true, true, false, false, false]) rfl (by kernel_rfl) (T_val (v := kv) (x_load1 rfl underlying101 rfl (RC.cell hrc (Holds.ro_at H259_ 0 rfl) (j := 0) (u := kv) (rfl))) ?_)
    refine ⟨⟨Holds.mprd H259_ 1 rfl, Holds.rd H259_ 2 rfl, Holds.mprd H259_ 3 rfl, Holds.rd H259_ 5 rfl, Holds.tr_rd H259_ 6 rfl 7 rfl, (And.intro (Holds.rdf H259_ 7 rfl) (Holds.blk H259_ 7 rfl)), (Holds.ro_at H259_ 0 rfl)⟩, ?_⟩
    have hq261_ := And.intro (Holds.mprd H259_ 1 rfl) (And.intro (Holds.rd H259_ 2 rfl) (And.intro (Holds.mprd H259_ 3 rfl) (And.intro (Holds.rd H259_ 5 rfl) (And.intro (Holds.tr_rd H259_ 6 rfl 7 rfl) (And.intro ((And.intro (Holds.rdf H259_ 7 rfl) (Holds.blk H259_ 7 rfl))) ((Holds.ro_at H259_ 0 rfl)))))))
    refine A_tk 4 (v := (Value.string (strN (ints x.key)))) rfl (by kernel_rfl) (fun w hS => x_b2sRS rfl hkv hS.2.2.2.2.2.2 underlying101 underlying5 underlying9) hq261_ ?_
    exact hJ78 _ _ ⟨_, congrArg (fun e => mkA 62 e []) (ch (ch (ch (ch rfl rfl) rfl) rfl) rfl), H259_, S260_⟩
   refine AllR.cons ?_ AllR.nil
   refine A_op (ls' := #[true, true, true, false, false, true, true, true, true, true, false, true, false]) rfl (by kernel_rfl) (T_alloc z177 H259_ ?_)
   intro b262_ w263_ S265_ H264_
   have S266_ := Same.trans S260_ S265_
   refine ⟨⟨Holds.mprd H264_ 2 rfl, Holds.rd H264_ 3 rfl, Holds.mprd H264_ 4 rfl, Holds.rd H264_ 6 rfl, Holds.tr_rd H264_ 7 rfl 8 rfl, (And.intro (Holds.rdf H264_ 8 rfl) (Holds.blk H264_ 8 rfl)), (Holds.ro_at H264_ 1 rfl)⟩, ?_⟩
   exact hJ84 _ _ ⟨b262_, _, congrArg (fun e => mkA 62 e []) (ch (ch (ch (ch (ch rfl rfl) rfl) rfl) rfl) rfl), H264_, S266_⟩
  intro hJ83
  refine A_cut #[true, true, true, false, false, true, true, true, false, false, false, true, false] 6 (fun a__ w1__ => ∃ b69_ : Nat, ∃ h : Env, a__ = mkA 62 (upd (upd (upd (upd (upd h 0 (vQ zb)) 1 (vQ a)) 4 (vQ b69_)) 26 (vQ a)) 31 (vP (some ⟨a, 1, none⟩))) [] ∧ Holds w1__ (cl b69_ 177 [(Value.nilIface), (Value.nilIface)] :: ro R :: mp pn wb ((aggm PM) ++ [(a, vA #[])]) :: cl zb 97 [(Value.map (some kb)), (Value.iface 183 (vQ tb)), (Value.map (some wb)), (Value.map (some ib))] :: mp Value.string kb KM :: setsP (List.map Prod.fst PM) S :: cl tb 185 [(vQ (rt sb W)), (vI .i64 cnt), (vQ sb)] :: tr sb sb W :: clf sb 182 [(Value.nilIface), (Value.nilIface), (Value.nilIface), (Value.nilIface), (vP none), (vP none), (vP none), (vI .i64 0)] :: F) ∧ Same w w1__) ?_ ?_
  ·rintro _ w267_ ⟨b69_, h, rfl, H268_, S269_⟩
   refine A_ready (i := 3) (rs := [8]) (by kernel_rfl) ?_
   refine AllR.cons ?_ ?_
   ·skip
    refine A_op (ls' := #[true, true, true, true, false, true, true, true, false, false, false, true, false]) rfl (by kernel_rfl) (T_val (v := kv) (x_load1 rfl underlying101 rfl (RC.cell hrc (Holds.ro_at H268_ 1 rfl) (j := 0) (u := kv) (rfl))) ?_)
    refine ⟨⟨Holds.mprd H268_ 2 rfl, Holds.rd H268_ 3 rfl, Holds.mprd H268_ 4 rfl, Holds.rd H268_ 6 rfl, Holds.tr_rd H268_ 7 rfl 8 rfl, (And.intro (Holds.rdf H268_ 8 rfl) (Holds.blk H268_ 8 rfl)), (Holds.ro_at H268_ 1 rfl)⟩, ?_⟩
    have hq270_ := And.intro (Holds.mprd H268_ 2 rfl) (And.intro (Holds.rd H268_ 3 rfl) (And.intro (Holds.mprd H268_ 4 rfl) (And.intro (Holds.rd H268_ 6 rfl) (And.intro (Holds.tr_rd H268_ 7 rfl 8 rfl) (And.intro ((And.intro (Holds.rdf H268_ 8 rfl) (Holds.blk H268_ 8 rfl))) ((Holds.ro_at H268_ 1 rfl)))))))
    refine A_tk 4 (v := (Value.string (strN (ints x.key)))) rfl (by kernel_rfl) (fun w hS => x_b2sRS rfl hkv hS.2.2.2.2.2.2 underlying101 underlying5 underlying9) hq270_ ?_
    exact hJ82 _ _ ⟨b69_, _, congrArg (fun e => mkA 62 e []) (ch (ch (ch (ch (ch rfl rfl) rfl) rfl) rfl) rfl), H268_, S269_⟩
   refine AllR.cons ?_ AllR.nil
   refine A_op (ls' := #[true, true, true, false, false, true, true, true, true, false, false, true, false]) rfl (by kernel_rfl) (T_val (v := (vS (some ea) em ec)) (x_load1 rfl underlying101 rfl (RC.cell hrc (Holds.ro_at H268_ 1 rfl) (j := 1) (u := (vS (some ea) em ec)) (rfl))) ?_)
   refine ⟨⟨Holds.mprd H268_ 2 rfl, Holds.rd H268_ 3 rfl, Holds.mprd H268_ 4 rfl, Holds.rd H268_ 6 rfl, Holds.tr_rd H268_ 7 rfl 8 rfl, (And.intro (Holds.rdf H268_ 8 rfl) (Holds.blk H268_ 8 rfl)), (Holds.ro_at H268_ 1 rfl)⟩, ?_⟩
   have hq271_ := And.intro (Holds.mprd H268_ 2 rfl) (And.intro (Holds.rd H268_ 3 rfl) (And.intro (Holds.mprd H268_ 4 rfl) (And.intro (Holds.rd H268_ 6 rfl) (And.intro (Holds.tr_rd H268_ 7 rfl 8 rfl) (And.intro ((And.intro (Holds.rdf H268_ 8 rfl) (Holds.blk H268_ 8 rfl))) ((Holds.ro_at H268_ 1 rfl)))))))
   refine A_tk 9 (v := (Value.string (strN (ints x.end_)))) rfl (by kernel_rfl) (fun w hS => x_b2sRS rfl hes hS.2.2.2.2.2.2 underlying101 underlying5 underlying9) hq271_ ?_
   exact hJ84 _ _ ⟨b69_, _, congrArg (fun e => mkA 62 e []) (ch (ch (ch (ch (ch rfl rfl) rfl) rfl) rfl) rfl), H268_, S269_⟩
  intro hJ85
  have hq272_ := And.intro (Holds.mprd H28_ 1 rfl) (And.intro (Holds.rd H28_ 2 rfl) (And.intro (Holds.mprd H28_ 3 rfl) (And.intro (Holds.rd H28_ 5 rfl) (And.intro (Holds.tr_rd H28_ 6 rfl 7 rfl) (And.intro ((And.intro (Holds.rdf H28_ 7 rfl) (Holds.blk H28_ 7 rfl))) ((Holds.ro_at H28_ 0 rfl)))))))
  refine A_tk 0 (v := (vQ a)) rfl (by kernel_rfl) (fun w hS => x_move rfl) hq272_ ?_
  refine A_tk 1 (v := (vQ a)) rfl (by kernel_rfl) (fun w hS => by kernel_rfl) hq272_ ?_
  refine A_tk 2 (v := (vQ a)) rfl (by kernel_rfl) (fun w hS => by kernel_rfl) hq272_ ?_
  refine A_tk 5 (v := (vQ a)) rfl (by kernel_rfl) (fun w hS => x_move rfl) hq272_ ?_
  refine A_tk 6 (v := (vQ a)) rfl (by kernel_rfl) (fun w hS => by kernel_rfl) hq272_ ?_
  refine A_tk 7 (v := (vP (some ⟨a, 1, none⟩))) rfl (by kernel_rfl) (fun w hS => by kernel_rfl) hq272_ ?_
  refine A_ready (i := 3) (rs := [8, 11]) (by kernel_rfl) ?_
  refine AllR.cons ?_ ?_
  ·skip
   refine A_op (ls' := #[true, true, true, true, false, true, true, true, false, false, false, false, false]) rfl (by kernel_rfl) (T_val (v := kv) (x_load1 rfl underlying101 rfl (RC.cell hrc (Holds.ro_at H28_ 0 rfl) (j := 0) (u := kv) (rfl))) ?_)
   refine ⟨⟨Holds.mprd H28_ 1 rfl, Holds.rd H28_ 2 rfl, Holds.mprd H28_ 3 rfl, Holds.rd H28_ 5 rfl, Holds.tr_rd H28_ 6 rfl 7 rfl, (And.intro (Holds.rdf H28_ 7 rfl) (Holds.blk H28_ 7 rfl)), (Holds.ro_at H28_ 0 rfl)⟩, ?_⟩
   refine A_tk 4 (v := (Value.string (strN (ints x.key)))) rfl (by kernel_rfl) (fun w hS => x_b2sRS rfl hkv hS.2.2.2.2.2.2 underlying101 underlying5 underlying9) hq272_ ?_
   exact hJ77 _ _ ⟨_, congrArg (fun e => mkA 62 e []) (ch (ch (ch (ch rfl rfl) rfl) rfl) rfl), H28_, (Same.trans S8_ (Same.drew _))⟩
  refine AllR.cons ?_ ?_
  ·skip
   refine A_op (ls' := #[true, true, true, false, false, true, true, true, true, false, false, false, false]) rfl (by kernel_rfl) (T_val (v := (vS (some ea) em ec)) (x_load1 rfl underlying101 rfl (RC.cell hrc (Holds.ro_at H28_ 0 rfl) (j := 1) (u := (vS (some ea) em ec)) (rfl))) ?_)
   refine ⟨⟨Holds.mprd H28_ 1 rfl, Holds.rd H28_ 2 rfl, Holds.mprd H28_ 3 rfl, Holds.rd H28_ 5 rfl, Holds.tr_rd H28_ 6 rfl 7 rfl, (And.intro (Holds.rdf H28_ 7 rfl) (Holds.blk H28_ 7 rfl)), (Holds.ro_at H28_ 0 rfl)⟩, ?_⟩
   refine A_tk 9 (v := (Value.string (strN (ints x.end_)))) rfl (by kernel_rfl) (fun w hS => x_b2sRS rfl hes hS.2.2.2.2.2.2 underlying101 underlying5 underlying9) hq272_ ?_
   exact hJ83 _ _ ⟨_, congrArg (fun e => mkA 62 e []) (ch (ch (ch (ch rfl rfl) rfl) rfl) rfl), H28_, (Same.trans S8_ (Same.drew _))⟩
  refine AllR.cons ?_ AllR.nil
  refine A_op (ls' := #[true, true, true, false, false, true, true, true, false, false, false, true, false]) rfl (by kernel_rfl) (T_alloc z177 H28_ ?_)
  intro b273_ w274_ S276_ H275_
  have S277_ := Same.trans (Same.trans S8_ (Same.drew _)) S276_
  refine ⟨⟨Holds.mprd H275_ 2 rfl, Holds.rd H275_ 3 rfl, Holds.mprd H275_ 4 rfl, Holds.rd H275_ 6 rfl, Holds.tr_rd H275_ 7 rfl 8 rfl, (And.intro (Holds.rdf H275_ 8 rfl) (Holds.blk H275_ 8 rfl)), (Holds.ro_at H275_ 1 rfl)⟩, ?_⟩
  exact hJ85 _ _ ⟨b273_, _, congrArg (fun e => mkA 62 e []) (ch (ch (ch (ch (ch rfl rfl) rfl) rfl) rfl) rfl), H275_, S277_⟩
end Go.Proofs.YtlnihndjepjagaaGreat
set_option linter.unusedVariables false
set_option linter.unusedSimpArgs false
namespace Go.Proofs.YtlnihndjepjagaaGreat
open Go Go.RowKit Gw Tryz
open Go.Value renaming int → vI, bool → vB, slice → vS, pointer → vP, agg → vA, tuple → vT

theorem msetN {α : Type} [DecidableEq α] {m : List (α × Value)} {a : α} (h : ∀ x ∈ m, x.1 ≠ a) (v : Value) : mset m a v = m ++ [(a, v)] := by
  unfold mset
  rw [if_neg]
  rw [List.any_eq_true]
  rintro ⟨x, hx, he⟩
  exact h x hx (of_decide_eq_true he)
theorem mgetN {α : Type} [DecidableEq α] (m : List (α × Value)) (a : α) : ((∀ x ∈ m, x.1 ≠ a) ∧ mget m a = none) ∨ (∃ x ∈ m, x.1 = a ∧ mget m a = some x.2) := by
  unfold mget
  cases hf : m.find? (fun p => decide (p.1 = a)) with
  | none =>
    rw [List.find?_eq_none] at hf
    exact .inl ⟨fun x hx e => hf x hx (decide_eq_true e), rfl⟩
  | some x => exact .inr ⟨x, List.mem_of_find?_eq_some hf, of_decide_eq_true (List.find?_some (p := fun p : α × Value => decide (p.1 = a)) hf), rfl⟩
def idm (PM : List (Nat × GW)) : List (Int × Value) := PM.map fun p => (p.2.iD, pn p.1)
def ids (PM : List (Nat × GW)) : List Int := PM.map fun p => p.2.iD
theorem idm_keys (PM : List (Nat × GW)) : (idm PM).map (·.1) = ids PM := by unfold idm ids; rw [List.map_map]; rfl
theorem idm_get (PM : List (Nat × GW)) (a : Int) : ((∀ p ∈ PM, p.2.iD ≠ a) ∧ mget (idm PM) a = none) ∨ (∃ p ∈ PM, p.2.iD = a ∧ mget (idm PM) a = some (pn p.1)) := by
  rcases mgetN (idm PM) a with ⟨h1, h2⟩ | ⟨x, h1, h2, h3⟩
  · exact .inl ⟨fun p hp => h1 _ (List.mem_map.2 ⟨p, hp, rfl⟩), h2⟩
  · obtain ⟨p, hp, rfl⟩ := List.mem_map.1 h1
    exact .inr ⟨p, hp, h2, h3⟩
theorem idm_set {PM : List (Nat × GW)} {a : Nat} {x : GW} (h : ∀ p ∈ PM, p.2.iD ≠ x.iD) : mset (idm PM) x.iD (pn a) = idm (PM ++ [(a, x)]) := by
  rw [msetN]
  · unfold idm; rw [List.map_append]; rfl
  · intro y hy
    obtain ⟨p, hp, rfl⟩ := List.mem_map.1 hy
    exact h p hp
theorem ids_snoc {PM : List (Nat × GW)} {a : Nat} {x : GW} (hn : (ids PM).Nodup) (h : ∀ p ∈ PM, p.2.iD ≠ x.iD) : (ids (PM ++ [(a, x)])).Nodup := by
  unfold ids
  rw [List.map_append, List.nodup_append]
  refine ⟨hn, by simp, fun q hq c hc => ?_⟩
  obtain ⟨p, hp, rfl⟩ := List.mem_map.1 hq
  have : c = x.iD := by simpa using hc
  rw [this]; exact h p hp
/-! ### Who watches a key -/
def WProper (x : GW) : Prop := x.hasEnd = true → x.key.size ≠ 0 ∧ (x.end_.size = 0 ∨ Op.bytesLess x.key.toList x.end_.toList = true)
def seesB (x : GW) (k : ByteArray) : Bool :=
  if x.hasEnd = true then (if (x.end_.toList == (ByteArray.mk #[]).toList) = true then !(Op.bytesLess k.toList x.key.toList) else !(Op.bytesLess k.toList x.key.toList) && Op.bytesLess k.toList x.end_.toList) else k.toList == x.key.toList
theorem cb_le0 : ∀ a b : List UInt8, Lib.compareBytes a (b ++ [0]) < 0 ↔ Lib.compareBytes a b ≤ 0
  | [], [] => by decide
  | [], _ :: _ => by simp [Lib.compareBytes]
  | x :: xs, [] => by
    simp only [List.nil_append, Lib.compareBytes, UInt8.lt_iff_toNat_lt]
    have : ¬ x.toNat < (0 : UInt8).toNat := Nat.not_lt_zero _
    rw [if_neg this]
    split
    · simp
    · cases xs <;> simp [Lib.compareBytes]
  | x :: xs, y :: ys => by
    have ih := cb_le0 xs ys
    simp only [List.cons_append, Lib.compareBytes, UInt8.lt_iff_toNat_lt]
    split
    · simp
    · split
      · simp
      · exact ih
theorem app0g (s : ByteArray) : (s ++ ByteArray.mk #[0]).data.toList = s.data.toList ++ [0] := by simp
theorem not_less {a b : ByteArray} : (!(Op.bytesLess b.toList a.toList)) = true ↔ Lib.compareBytes a.data.toList b.data.toList ≤ 0 := by
  have h1 := @bl_lt b.data.toList a.data.toList
  have h2 := cb_flip a.data.toList b.data.toList
  rw [toList_data, toList_data, Bool.not_eq_true', Bool.eq_false_iff, ne_eq, h1]
  omega
theorem sees_meets {x : GW} {k : ByteArray} (hx : x.hasEnd = true) (hp : WProper x) (hk : k.size ≠ 0) :
    (acm x.key.data.toList (k ++ ByteArray.mk #[0]).data.toList < 0 ∧ acm k.data.toList x.end_.data.toList < 0) ↔ seesB x k = true := by
  obtain ⟨h1, h2⟩ := hp hx
  have n1 : x.key.data.toList ≠ [] := fun e => h1 (nil_size.1 e)
  have n2 : k.data.toList ≠ [] := fun e => hk (nil_size.1 e)
  unfold seesB
  rw [if_pos hx, app0g, acm_ne n1 (by simp), cb_le0]
  by_cases h0 : x.end_.size = 0
  · rw [if_pos (empty_iff.2 h0), nil_size.2 h0, acm_r n2, not_less]
    simp
  · rw [if_neg (fun e => h0 (empty_iff.1 e)), Bool.and_eq_true, not_less, acm_ne n2 (fun e => h0 (nil_size.1 e)), toList_data k, toList_data x.end_, bl_lt]
theorem hit_iff {R : HP} {W : TR} {S : List Nat} {M : List GW} (h : TWs R W S M) (hp : ∀ x ∈ M, WProper x) {k : ByteArray} (hk : k.size ≠ 0) :
    isect AO k.data.toList (k ++ ByteArray.mk #[0]).data.toList W = true ↔ ∃ x ∈ M, x.hasEnd = true ∧ seesB x k = true := by
  have n2 : k.data.toList ≠ [] := fun e => hk (nil_size.1 e)
  have hq : AO.cm k.data.toList (k ++ ByteArray.mk #[0]).data.toList < 0 := by
    show acm k.data.toList (k ++ ByteArray.mk #[0]).data.toList < 0
    rw [app0g, acm_ne n2 (by simp), cb_le0, cb_refl]
    decide
  have hP : Prp AO (ino W) := fun n hn => by
    obtain ⟨x, hx, e1, e2, e3⟩ := (h.d n.kb n.ke).1 ⟨n, hn, rfl, rfl⟩
    obtain ⟨h1, h2⟩ := hp x hx e1
    have n1 : x.key.data.toList ≠ [] := fun e => h1 (nil_size.1 e)
    show acm n.kb n.ke < 0
    rw [← e2, ← e3]
    by_cases h0 : x.end_.size = 0
    · rw [nil_size.2 h0, acm_r n1]; decide
    · rw [acm_ne n1 (fun e => h0 (nil_size.1 e))]
      have := h2.resolve_left h0
      rw [toList_data, toList_data] at this
      exact bl_lt.1 this
  rw [isect_eq hq h.s h.ok.2.1 hP, List.any_eq_true]
  constructor
  · rintro ⟨n, hn, hm⟩
    obtain ⟨x, hx, e1, e2, e3⟩ := (h.d n.kb n.ke).1 ⟨n, hn, rfl, rfl⟩
    have hm : acm n.kb (k ++ ByteArray.mk #[0]).data.toList < 0 ∧ acm k.data.toList n.ke < 0 := of_decide_eq_true hm
    rw [← e2, ← e3] at hm
    exact ⟨x, hx, e1, (sees_meets e1 (hp x hx) hk).1 hm⟩
  · rintro ⟨x, hx, e1, hs⟩
    obtain ⟨n, hn, e2, e3⟩ := (h.d _ _).2 ⟨x, hx, e1, rfl, rfl⟩
    have := (sees_meets e1 (hp x hx) hk).2 hs
    refine ⟨n, hn, decide_eq_true ?_⟩
    rw [e2, e3]
    exact this
theorem sees_key {x : GW} {k : ByteArray} (hx : x.hasEnd = false) : seesB x k = true ↔ x.key = k := by
  unfold seesB
  rw [if_neg (by rw [hx]; decide), beq_iff_eq, toList_data, toList_data]
  constructor
  · intro h; exact (ByteArray.ext (Array.toList_inj.1 h)).symm
  · rintro rfl; rfl
theorem any_sees {M : List GW} {k : ByteArray} : M.any (fun x => seesB x k) = true ↔ (∃ x ∈ M, x.hasEnd = false ∧ x.key = k) ∨ (∃ x ∈ M, x.hasEnd = true ∧ seesB x k = true) := by
  rw [List.any_eq_true]
  constructor
  · rintro ⟨x, hx, h⟩
    cases he : x.hasEnd with
    | false => exact .inl ⟨x, hx, he, (sees_key he).1 h⟩
    | true => exact .inr ⟨x, hx, he, h⟩
  · rintro (⟨x, hx, he, h⟩ | ⟨x, hx, he, h⟩)
    · exact ⟨x, hx, (sees_key he).2 h⟩
    · exact ⟨x, hx, h⟩
theorem kd_M {R : HP} {PM : List (Nat × GW)} {KM : List (ByteArray × Value)} {S : List Nat} {W : TR} (h : GSt R PM KM S W) (k : ByteArray) : (∃ y ∈ KM, y.1 = k) ↔ ∃ x ∈ gws PM, x.hasEnd = false ∧ x.key = k := by
  rw [h.kd]
  constructor
  · rintro ⟨p, hp, e⟩; exact ⟨p.2, List.mem_map.2 ⟨p, hp, rfl⟩, e⟩
  · rintro ⟨x, hx, e⟩; obtain ⟨p, hp, rfl⟩ := List.mem_map.1 hx; exact ⟨p, hp, e⟩

end Go.Proofs.YtlnihndjepjagaaGreat
set_option linter.unusedVariables false
set_option linter.unusedSimpArgs false
namespace Go.Proofs.YtlnihndjepjagaaGreat
open Go Go.RowKit Gw Tryz
open Go.Value renaming int → vI, bool → vB, slice → vS, pointer → vP, agg → vA, tuple → vT

set_option maxHeartbeats 1600000 in
theorem gzHas (R : HP) (zb kb tb sb wb ib : Nat) (cnt : Int) (PM : List (Nat × GW)) (KM : List (ByteArray × Value)) (S : List Nat) (W : TR) (q : Int) :
    Tri Tryz.prog 40 #[(vQ zb), (vI .i64 q)] R [cl zb 97 [(Value.map (some kb)), (Value.iface 183 (vQ tb)), (Value.map (some wb)), (Value.map (some ib))], mp (vI .i64) ib (idm PM)] (fun v__ post__ => (v__ = (vB true) ∧ post__ = [cl zb 97 [(Value.map (some kb)), (Value.iface 183 (vQ tb)), (Value.map (some wb)), (Value.map (some ib))], mp (vI .i64) ib (idm PM)] ∧ (∃ p ∈ PM, p.2.iD = q)) ∨ (v__ = (vB false) ∧ post__ = [cl zb 97 [(Value.map (some kb)), (Value.iface 183 (vQ tb)), (Value.map (some wb)), (Value.map (some ib))], mp (vI .i64) ib (idm PM)] ∧ (∀ p ∈ PM, p.2.iD ≠ q))) := by
 refine Tri.into (n := 12) (al := [(vQ zb), (vI .i64 q)]) func40 rfl ntmps40 rfl rfl fun w F H => ?_
 refine cr fun _ hK1_ => ?_
 refine sv (v := (vB false)) (x_assign rfl) ?_
 refine wn (hK1_ _ _ ?_)
 refine cr fun _ hK2_ => ?_
 refine sm (vQ zb) ?_
 refine sv (v := (vQ zb)) (by kernel_rfl) ?_
 refine sv (v := (vP (some ⟨zb, 3, none⟩))) (by kernel_rfl) ?_
 refine sv (v := (Value.map (some ib))) (x_load1 rfl underlying95 rfl ((Holds.rd H 1 rfl) 3 (Value.map (some ib)) rfl)) ?_
 refine sm (vI .i64 q) ?_
 rcases idm_get PM q with ⟨f3_n, f3_g⟩ | ⟨f3_p, f3_m, f3_k, f3_g⟩
 ·skip
  refine sv (v := (vP none)) (x_lookup (K := (vI .i64)) (a := q) (m := (idm PM)) rfl rfl (KeyKind.int underlying2) underlying95 z136 (Holds.mprd H 2 rfl) (by rw [f3_g]; rfl)) ?_
  refine sv (v := (vB false)) (by kernel_rfl) ?_
  refine sv (v := (vB false)) (x_assign rfl) ?_
  refine wn (hK2_ _ _ ?_)
  refine C_ret ?_
  refine R_any (v := (vB false)) (run_results1 rfl rfl) ?_
  exact ⟨_, _, rfl, (.inr ⟨rfl, rfl, (f3_n)⟩), (Same.refl w), H⟩
 ·skip
  refine sv (v := (vQ f3_p.1)) (x_lookup (K := (vI .i64)) (a := q) (m := (idm PM)) rfl rfl (KeyKind.int underlying2) underlying95 z136 (Holds.mprd H 2 rfl) (by rw [f3_g]; rfl)) ?_
  refine sv (v := (vB true)) (by kernel_rfl) ?_
  refine sv (v := (vB true)) (x_assign rfl) ?_
  refine wn (hK2_ _ _ ?_)
  refine C_ret ?_
  refine R_any (v := (vB true)) (run_results1 rfl rfl) ?_
  exact ⟨_, _, rfl, (.inl ⟨rfl, rfl, (⟨f3_p, f3_m, f3_k⟩)⟩), (Same.refl w), H⟩

set_option maxHeartbeats 1600000 in
theorem gzSize (R : HP) (zb kb tb sb wb ib : Nat) (cnt : Int) (PM : List (Nat × GW)) (KM : List (ByteArray × Value)) (S : List Nat) (W : TR) :
    Tri Tryz.prog 41 #[(vQ zb)] R [cl zb 97 [(Value.map (some kb)), (Value.iface 183 (vQ tb)), (Value.map (some wb)), (Value.map (some ib))], mp pn wb (aggm PM)] (fun v__ post__ => v__ = (vI .i64 (List.length PM : Int)) ∧ post__ = [cl zb 97 [(Value.map (some kb)), (Value.iface 183 (vQ tb)), (Value.map (some wb)), (Value.map (some ib))], mp pn wb (aggm PM)]) := by
 refine Tri.into (n := 7) (al := [(vQ zb)]) func41 rfl ntmps41 rfl rfl fun w F H => ?_
 refine cr fun _ hK1_ => ?_
 refine sv (v := (vI .i64 0)) (x_assign rfl) ?_
 refine wn (hK1_ _ _ ?_)
 refine cr fun _ hK2_ => ?_
 refine sm (vQ zb) ?_
 refine sv (v := (vQ zb)) (by kernel_rfl) ?_
 refine sv (v := (vQ zb)) (by kernel_rfl) ?_
 refine S_list (T_callW (al := [(vQ zb)]) rfl rfl cb64 (Calls.into (n := 8) func64 rfl ntmps64 rfl rfl ?_))
 refine cr fun _ hK3_ => ?_
 refine sv (v := (vI .i64 0)) (x_assign rfl) ?_
 refine wn (hK3_ _ _ ?_)
 refine cr fun _ hK4_ => ?_
 refine sm (vQ zb) ?_
 refine sv (v := (vQ zb)) (by kernel_rfl) ?_
 refine sv (v := (vP (some ⟨zb, 2, none⟩))) (by kernel_rfl) ?_
 refine sv (v := (Value.map (some wb))) (x_load1 rfl underlying91 rfl ((Holds.rd H 1 rfl) 2 (Value.map (some wb)) rfl)) ?_
 refine sv (v := (vI .i64 (List.length (aggm PM) : Int))) (x_lenMp (K := pn) rfl underlying91 (Holds.mprd H 2 rfl)) ?_
 refine sv (v := (vI .i64 (List.length (aggm PM) : Int))) (x_assign rfl) ?_
 refine wn (hK4_ _ _ ?_)
 refine C_ret ?_
 refine R_any (v := (vI .i64 (List.length (aggm PM) : Int))) (run_results1 rfl rfl) ⟨_, rfl, ?_⟩
 refine sv (v := (vI .i64 (List.length (aggm PM) : Int))) (x_assign rfl) ?_
 refine wn (hK2_ _ _ ?_)
 refine C_ret ?_
 refine R_any (v := (vI .i64 (List.length (aggm PM) : Int))) (run_results1 rfl rfl) ?_
 exact ⟨_, _, rfl, ⟨(congrArg (vI .i64) ((by rw [agg_len]) : (List.length (aggm PM) : Int) = (List.length PM : Int))), rfl⟩, (Same.refl w), H⟩

set_option maxHeartbeats 8000000 in
theorem gzAdd (R : HP) (zb kb tb sb wb ib : Nat) (cnt : Int) (PM : List (Nat × GW)) (KM : List (ByteArray × Value)) (S : List Nat) (W : TR) (ka ea0 : Option Addr) (kl kc el ec0 : Nat) (x : GW) (hkv : RS R 1 (vS ka kl kc) (List.length (ints x.key)) (bytesV (ints x.key))) (hev : EndAt R (vS ea0 el ec0) x) (hG : GSt R PM KM S W) (hcn : cnt = (List.length (ino W) : Int) ∧ (ino W).length ≤ List.length PM) (hpl : PM.length ≤ 100000) (hid : ∀ p ∈ PM, p.2.iD ≠ x.iD) (hnd : (ids PM).Nodup) :
    TriG Tryz.prog 42 #[(vQ zb), (vI .i64 x.iD), (vS ka kl kc), (vS ea0 el ec0), (vI .i64 x.minRev)] R [cl zb 97 [(Value.map (some kb)), (Value.iface 183 (vQ tb)), (Value.map (some wb)), (Value.map (some ib))], mp Value.string kb KM, setsP (List.map Prod.fst PM) S, cl tb 185 [(vQ (rt sb W)), (vI .i64 cnt), (vQ sb)], tr sb sb W, clf sb 182 [(Value.nilIface), (Value.nilIface), (Value.nilIface), (Value.nilIface), (vP none), (vP none), (vP none), (vI .i64 0)], mp pn wb (aggm PM), mp (vI .i64) ib (idm PM)] (fun R' v__ post__ => ∃ (a : Nat) (KM' : List (ByteArray × Value)) (S' : List Nat) (W' : TR) (cnt' : Int), v__ = (vT #[]) ∧ post__ = [cl zb 97 [(Value.map (some kb)), (Value.iface 183 (vQ tb)), (Value.map (some wb)), (Value.map (some ib))], mp Value.string kb KM', setsP (List.map Prod.fst (PM ++ [(a, x)])) S', cl tb 185 [(vQ (rt sb W')), (vI .i64 cnt'), (vQ sb)], tr sb sb W', clf sb 182 [(Value.nilIface), (Value.nilIface), (Value.nilIface), (Value.nilIface), (vP none), (vP none), (vP none), (vI .i64 0)], mp pn wb (aggm (PM ++ [(a, x)])), mp (vI .i64) ib (idm (PM ++ [(a, x)]))] ∧ (GSt R' (PM ++ [(a, x)]) KM' S' W') ∧ (cnt' = (List.length (ino W') : Int) ∧ (ino W').length ≤ List.length (PM ++ [(a, x)]))) := by
 refine TriG.into (n := 29) (al := [(vQ zb), (vI .i64 x.iD), (vS ka kl kc), (vS ea0 el ec0), (vI .i64 x.minRev)]) func42 rfl ntmps42 rfl rfl fun w F H => ?_
 refine cr fun _ hK1_ => ?_
 refine sm (vI .i64 x.iD) ?_
 refine sm (vS ka kl kc) ?_
 refine sm (vS ea0 el ec0) ?_
 refine sm (vI .i64 x.minRev) ?_
 refine S_list (T_new (obj := (.chan 1 #[] false 0 0 false)) (f := fun b__ => .chan (some b__)) (A := fun b__ => ob b__ (.chan 1 #[] false 0 0 false)) (by kernel_rfl) (fun l h => h.allocOb _) H ?_)
 intro b2_ w3_ S5_ H4_
 have S6_ := Same.trans (Same.refl w) S5_
 refine sv (v := (vA #[(vS ka kl kc), (vS ea0 el ec0), (vB false), (vB false), (vB false), (vI .i64 0), (vI .i64 x.minRev), (vI .i64 x.iD), (vS none 0 0), ((Value.chan (some b2_)))])) (by kernel_rfl) ?_
 refine S_list (T_boxf (v := (vA #[(vS ka kl kc), (vS ea0 el ec0), (vB false), (vB false), (vB false), (vI .i64 0), (vI .i64 x.minRev), (vI .i64 x.iD), (vS none 0 0), ((Value.chan (some b2_)))])) rfl H4_ ?_)
 intro b7_ w8_ S10_ H9_
 have S11_ := Same.trans S6_ S10_
 refine sv (v := (vQ b7_)) (x_assign rfl) ?_
 refine wn (hK1_ _ _ ?_)
 refine cr fun _ hK12_ => ?_
 refine sm (vQ zb) ?_
 refine sv (v := (vQ zb)) (by kernel_rfl) ?_
 refine sv (v := (vP (some ⟨zb, 3, none⟩))) (by kernel_rfl) ?_
 refine sv (v := (Value.map (some ib))) (x_load1 rfl underlying95 rfl ((Holds.rd H9_ 3 rfl) 3 (Value.map (some ib)) rfl)) ?_
 refine sm (vI .i64 x.iD) ?_
 refine sm (vQ b7_) ?_
 refine S_list0 (T_mapUpdate (K := (vI .i64)) (a := x.iD) rfl rfl rfl (KeyKind.int underlying2) underlying95 H9_ 10 rfl (by rw [idm_keys]; exact hnd) ?_)
 intro w13_ S15_ H14_
 have S16_ := Same.trans S11_ S15_
 refine wn (hK12_ _ _ ?_)
 refine C_reg ?_
 refine sm (vQ zb) ?_
 refine sv (v := (vQ zb)) (by kernel_rfl) ?_
 refine sv (v := (vQ zb)) (by kernel_rfl) ?_
 refine sm (vQ b7_) ?_
 have H17_ := ((Holds.bring H14_ 2 rfl) :)
 obtain ⟨R18_, hs19_, hn20_, hc21_, H22_⟩ := Holds.giftf H17_
 have H24_ := H22_
 have hw23_ : WNew R18_ b7_ x := ⟨_, _, ((Value.chan (some b2_))), hc21_, hkv.mono hs19_, hev.mono hs19_⟩
 have H32_ := ((Holds.bring (Holds.bring (Holds.bring (Holds.bring (Holds.bring (Holds.bring (Holds.bring (Holds.bring H24_ 8 rfl) 8 rfl) 8 rfl) 8 rfl) 8 rfl) 8 rfl) 8 rfl) 7 rfl) :)
 refine S_list (T_call (al := [(vQ zb), (vQ b7_)]) (pre := [cl zb 97 [(Value.map (some kb)), (Value.iface 183 (vQ tb)), (Value.map (some wb)), (Value.map (some ib))], mp Value.string kb KM, setsP (List.map Prod.fst PM) S, cl tb 185 [(vQ (rt sb W)), (vI .i64 cnt), (vQ sb)], tr sb sb W, clf sb 182 [(Value.nilIface), (Value.nilIface), (Value.nilIface), (Value.nilIface), (vP none), (vP none), (vP none), (vI .i64 0)], mp pn wb (aggm PM)]) rfl rfl cb65 (ggAdd R18_ zb kb tb sb wb ib cnt PM KM S W b7_ x (hw23_) ((fun hm => by obtain ⟨q, hq, e⟩ := List.mem_map.1 hm; obtain ⟨cs, T, h⟩ := (hG.w q hq).alv; rw [e, hn20_] at h; cases h)) ((hG.mono hs19_)) (by first | assumption | omega) (by first | assumption | omega)) H32_ ?_)
 rintro v25_ p36_ w33_ ⟨KM26_, S27_, W28_, cnt29_, rfl, rfl, he30_, he31_⟩ S35_ H34_
 have S37_ := Same.trans S16_ S35_
 refine wpList_nil ?_
 refine R_0 rfl ?_
 have H38_ : Holds w33_ (ro R18_ :: cl zb 97 [(Value.map (some kb)), (Value.iface 183 (vQ tb)), (Value.map (some wb)), (Value.map (some ib))] :: mp Value.string kb KM26_ :: setsP (List.map Prod.fst (PM ++ [(b7_, x)])) S27_ :: cl tb 185 [(vQ (rt sb W28_)), (vI .i64 cnt29_), (vQ sb)] :: tr sb sb W28_ :: clf sb 182 [(Value.nilIface), (Value.nilIface), (Value.nilIface), (Value.nilIface), (vP none), (vP none), (vP none), (vI .i64 0)] :: mp pn wb (aggm (PM ++ [(b7_, x)])) :: ob b2_ (.chan 1 #[] false 0 0 false) :: mp (vI .i64) ib (mset (idm PM) x.iD (vQ b7_)) :: F) := (H34_)
 have H39_ := H38_; rw [show mset (idm PM) x.iD (vQ b7_) = idm (PM ++ [(b7_, x)]) from idm_set hid] at H39_
 have H40_ := Holds.pkF H39_ [0, 0, 0, 0, 0, 0, 0, 0, 1] 1
 exact ⟨R18_, _, _, rfl, hs19_, ⟨b7_, KM26_, S27_, W28_, cnt29_, rfl, rfl, (he30_), (he31_)⟩, S37_, H40_⟩

set_option maxHeartbeats 8000000 in
theorem ggContains (R : HP) (zb kb tb sb wb ib : Nat) (cnt : Int) (PM : List (Nat × GW)) (KM : List (ByteArray × Value)) (S : List Nat) (W : TR) (k : ByteArray) (hG : GSt R PM KM S W) (hcn : cnt = (List.length (ino W) : Int) ∧ (ino W).length ≤ List.length PM) (hpl : PM.length ≤ 100000) (hk : k.size ≠ 0) (hks : k.size ≤ 1000000000000000) (hP : ∀ x ∈ gws PM, WProper x) :
    Tri Tryz.prog 67 #[(vQ zb), (Value.string k)] R [cl zb 97 [(Value.map (some kb)), (Value.iface 183 (vQ tb)), (Value.map (some wb)), (Value.map (some ib))], mp Value.string kb KM, setsP (List.map Prod.fst PM) S, cl tb 185 [(vQ (rt sb W)), (vI .i64 cnt), (vQ sb)], tr sb sb W, clf sb 182 [(Value.nilIface), (Value.nilIface), (Value.nilIface), (Value.nilIface), (vP none), (vP none), (vP none), (vI .i64 0)], mp pn wb (aggm PM)] (fun v__ post__ => v__ = (vB (List.any (gws PM) (fun x => seesB x k))) ∧ post__ = [cl zb 97 [(Value.map (some kb)), (Value.iface 183 (vQ tb)), (Value.map (some wb)), (Value.map (some ib))], mp Value.string kb KM, setsP (List.map Prod.fst PM) S, cl tb 185 [(vQ (rt sb W)), (vI .i64 cnt), (vQ sb)], tr sb sb W, clf sb 182 [(Value.nilIface), (Value.nilIface), (Value.nilIface), (Value.nilIface), (vP none), (vP none), (vP none), (vI .i64 0)], mp pn wb (aggm PM)]) := by
 refine Tri.into (n := 28) (al := [(vQ zb), (Value.string k)]) func67 rfl ntmps67 rfl rfl fun w F H => ?_
 refine cr fun _ hK1_ => ?_
 refine sv (v := (vB false)) (x_assign rfl) ?_
 refine wn (hK1_ _ _ ?_)
 refine cr fun _ hK2_ => ?_
 refine sm (vQ zb) ?_
 refine sv (v := (vQ zb)) (by kernel_rfl) ?_
 refine sv (v := (vQ zb)) (by kernel_rfl) ?_
 refine sv (v := (Value.map (some kb))) (x_load1 rfl underlying87 rfl ((Holds.rd H 1 rfl) 0 (Value.map (some kb)) rfl)) ?_
 refine sm (Value.string k) ?_
 rcases mget_or KM k with ⟨f3_n, f3_g⟩ | ⟨f3_y, f3_m, f3_k, f3_g⟩
 ·skip
  refine sv (v := (vT #[(Value.map none), (vB false)])) (x_lookup (K := Value.string) (a := k) (m := KM) rfl rfl (KeyKind.string underlying9) underlying87 z91 (Holds.mprd H 2 rfl) (by rw [f3_g]; rfl)) ?_
  refine sm (vT #[(Value.map none), (vB false)]) ?_
  refine sv (v := (Value.map none)) (by kernel_rfl) ?_
  refine sv (v := (vB false)) (by kernel_rfl) ?_
  refine sv (v := (Value.map none)) (x_assign rfl) ?_
  refine sv (v := (vB false)) (x_assign rfl) ?_
  refine wn (hK2_ _ _ ?_)
  refine C_seq (fun _ hK4_ => ?_)
  refine A_start (S := fun w => Rd zb [(Value.map (some kb)), (Value.iface 183 (vQ tb)), (Value.map (some wb)), (Value.map (some ib))] w ∧ MpRd Value.string kb KM w ∧ Rd tb [(vQ (rt sb W)), (vI .i64 cnt), (vQ sb)] w ∧ RtRd w (rt sb W) (rmx W) ∧ MpRd pn wb (aggm PM) w ∧ Sub R (hp w)) (N := 13) foll rfl rfl ?_
  have H5_ := Holds.drew_ H
  have hq6_ := And.intro (Holds.rd H5_ 1 rfl) (And.intro (Holds.mprd H5_ 2 rfl) (And.intro (Holds.rd H5_ 4 rfl) (And.intro (Holds.tr_rd H5_ 5 rfl 6 rfl) (And.intro (Holds.mprd H5_ 7 rfl) ((Holds.ro_at H5_ 0 rfl))))))
  refine A_tk 0 (v := (vB false)) rfl (by kernel_rfl) (fun w hS => x_move rfl) hq6_ ?_
  refine A_tk 1 (v := (vB false)) rfl (by kernel_rfl) (fun w hS => x_move rfl) hq6_ ?_
  refine A_tkY 2 (j := 1) (dj := 17) (b := false) (v := (vQ zb)) rfl (by kernel_rfl) rfl rfl rfl (fun w hS => x_move rfl) hq6_ ?_
  refine A_tkY 3 (j := 1) (dj := 17) (b := false) (v := (vQ zb)) rfl (by kernel_rfl) rfl rfl rfl (fun w hS => by kernel_rfl) hq6_ ?_
  refine A_tkY 4 (j := 1) (dj := 17) (b := false) (v := (vP (some ⟨zb, 1, none⟩))) rfl (by kernel_rfl) rfl rfl rfl (fun w hS => by kernel_rfl) hq6_ ?_
  refine A_tkY 5 (j := 1) (dj := 17) (b := false) (v := (Value.iface 183 (vQ tb))) rfl (by kernel_rfl) rfl rfl rfl (fun w hS => x_load1 rfl underlying89 rfl (hS.1 1 (Value.iface 183 (vQ tb)) rfl)) hq6_ ?_
  refine A_tkY 6 (j := 1) (dj := 17) (b := false) (v := (Value.string k)) rfl (by kernel_rfl) rfl rfl rfl (fun w hS => x_move rfl) hq6_ ?_
  refine A_tkY 8 (j := 1) (dj := 17) (b := false) (v := (Value.iface 183 (vQ tb))) rfl (by kernel_rfl) rfl rfl rfl (fun w hS => by kernel_rfl) hq6_ ?_
  refine A_tkY 9 (j := 1) (dj := 17) (b := false) (v := (Value.iface 183 (vQ tb))) rfl (by kernel_rfl) rfl rfl rfl (fun w hS => x_move rfl) hq6_ ?_
  refine A_ready (i := 7) (rs := []) (by kernel_rfl) ?_
  refine AllR.cons ?_ AllR.nil
  refine A_opYes (ls' := #[true, true, true, true, true, true, true, true, true, true, false, false, false]) (j := 1) (dj := 17) (b := false) rfl (by kernel_rfl) rfl rfl rfl (T_callW (al := [(Value.string k)]) rfl rfl cb86 (Calls.into (n := 7) func86 rfl ntmps86 rfl rfl ?_))
  refine cr fun _ hK7_ => ?_
  refine S_list (T_alloc z177 H5_ ?_)
  intro b8_ w9_ S11_ H10_
  have S12_ := Same.trans (Same.trans (Same.refl w) (Same.drew _)) S11_
  refine wn (hK7_ _ _ ?_)
  refine cr fun _ hK13_ => ?_
  refine sm (Value.string k) ?_
  refine sm (Value.string k) ?_
  refine sv (v := (Value.string (k ++ (ByteArray.mk #[0])))) (x_str rfl rfl (so_add (by have h1__ : (ByteArray.mk #[0]).size = 1 := rfl; omega)) (by decide)) ?_
  have H15_ := ((Holds.bring H10_ 1 rfl) :)
  refine S_list (T_call (al := [(Value.string k), (Value.string (k ++ (ByteArray.mk #[0])))]) (pre := []) rfl rfl cb83 (grNewIv R k (k ++ (ByteArray.mk #[0]))) H15_ ?_)
  rintro v14_ p19_ w16_ ⟨rfl, rfl⟩ S18_ H17_
  have S20_ := Same.trans S12_ S18_
  refine S_list0 (T_storeN (vs := [(Value.iface 222 (Value.string k)), (Value.iface 222 (Value.string (k ++ (ByteArray.mk #[0]))))]) rfl rfl z177 rfl (by simp [Value.oneCell']) H17_ 1 rfl (Nat.le_of_ble_eq_true (by rfl)) ?_)
  intro w21_ S23_ H22_
  have S24_ := Same.trans S20_ S23_
  refine wn (hK13_ _ _ ?_)
  refine C_ret ?_
  refine R_any (v := (vA #[(Value.iface 222 (Value.string k)), (Value.iface 222 (Value.string (k ++ (ByteArray.mk #[0]))))])) (run_results1 rfl ⟨_, rfl, load_resN underlying177 rfl z177 rfl (vs := [(Value.iface 222 (Value.string k)), (Value.iface 222 (Value.string (k ++ (ByteArray.mk #[0]))))]) (Holds.cl_cells H22_ 1 rfl 0 rfl)⟩) ⟨_, rfl, ?_⟩
  refine ⟨⟨Holds.rd H22_ 2 rfl, Holds.mprd H22_ 3 rfl, Holds.rd H22_ 5 rfl, Holds.tr_rd H22_ 6 rfl 7 rfl, Holds.mprd H22_ 8 rfl, (Holds.ro_at H22_ 0 rfl)⟩, ?_⟩
  refine A_ready (i := 10) (rs := []) (by kernel_rfl) ?_
  refine AllR.cons ?_ AllR.nil
  have H26_ := ((Holds.bring (Holds.bring (Holds.bring (Holds.bring H22_ 7 rfl) 7 rfl) 7 rfl) 3 rfl) :)
  refine A_opYes (ls' := #[true, true, true, true, true, true, true, true, true, true, true, false, false]) (j := 1) (dj := 17) (b := false) rfl (by kernel_rfl) rfl rfl rfl (T_invoke (al := [(vQ tb), (vA #[((Value.iface 222 (Value.string k))), ((Value.iface 222 (Value.string (k ++ (ByteArray.mk #[0])))))])]) (pre := [cl tb 185 [(vQ (rt sb W)), (vI .i64 cnt), (vQ sb)], tr sb sb W, clf sb 182 [(Value.nilIface), (Value.nilIface), (Value.nilIface), (Value.nilIface), (vP none), (vP none), (vP none), (vI .i64 0)]]) rfl (fun w => by kernel_rfl) (lcons rfl (lcons (congrArg (fun l => vA (List.toArray l)) (lcons (rfl : (Value.iface 222 (Value.string k)) = ((Value.iface 222 (Value.string k)))) (lcons (rfl : (Value.iface 222 (Value.string (k ++ (ByteArray.mk #[0])))) = ((Value.iface 222 (Value.string (k ++ (ByteArray.mk #[0])))))) rfl))) rfl)) cb158 (itIsect R (List UInt8) AO tb sb cnt [(Value.nilIface), (Value.nilIface), (Value.nilIface), (Value.nilIface), (vP none), (vP none), (vP none), (vI .i64 0)] W 222 222 (Value.string k) (Value.string (k ++ (ByteArray.mk #[0]))) k.data.toList ((k ++ ByteArray.mk #[0]).data.toList) (hG.t.ok.1) (av _) (av _)) H26_ ?_)
  rintro v25_ p30_ w27_ ⟨rfl, rfl⟩ S29_ H28_
  have S31_ := Same.trans S24_ S29_
  refine ⟨⟨Holds.rd H28_ 5 rfl, Holds.mprd H28_ 6 rfl, Holds.rd H28_ 1 rfl, Holds.tr_rd H28_ 2 rfl 3 rfl, Holds.mprd H28_ 8 rfl, (Holds.ro_at H28_ 0 rfl)⟩, ?_⟩
  have hq32_ := And.intro (Holds.rd H28_ 5 rfl) (And.intro (Holds.mprd H28_ 6 rfl) (And.intro (Holds.rd H28_ 1 rfl) (And.intro (Holds.tr_rd H28_ 2 rfl 3 rfl) (And.intro (Holds.mprd H28_ 8 rfl) ((Holds.ro_at H28_ 0 rfl))))))
  refine A_tk 11 (v := (vB (isect AO k.data.toList ((k ++ ByteArray.mk #[0]).data.toList) W))) rfl (by kernel_rfl) (fun w hS => (x_pickF rfl rfl)) hq32_ ?_
  refine A_tk 12 (v := (vB (isect AO k.data.toList ((k ++ ByteArray.mk #[0]).data.toList) W))) rfl (by kernel_rfl) (fun w hS => x_assign rfl) hq32_ ?_
  refine A_done (by kernel_rfl) ?_
  refine (X_then (hK4_ _ _ ?_))
  refine C_ret ?_
  refine R_any (v := (vB (isect AO k.data.toList ((k ++ ByteArray.mk #[0]).data.toList) W))) (run_results1 rfl rfl) ?_
  have H33_ := Holds.pkF H28_ [0, 4, 4, 4, 0, 0, 0, 1] 1
  exact ⟨_, _, rfl, ⟨(congrArg vB ((by rw [Bool.eq_iff_iff, any_sees, hit_iff hG.t hP hk]; exact ⟨.inr, fun h => h.elim (fun h => by obtain ⟨y, h1, h2⟩ := (kd_M hG k).2 h; exact absurd h2 (f3_n y h1)) id⟩) : (isect AO k.data.toList ((k ++ ByteArray.mk #[0]).data.toList) W) = (List.any (gws PM) (fun x => seesB x k)))), rfl⟩, S31_, H33_⟩
 ·skip
  obtain ⟨f3_b, f3_b_, f3_v⟩ := hG.k.v f3_y f3_m
  rw [f3_v] at f3_g
  refine sv (v := (vT #[(Value.map (some f3_b)), (vB true)])) (x_lookup (K := Value.string) (a := k) (m := KM) rfl rfl (KeyKind.string underlying9) underlying87 z91 (Holds.mprd H 2 rfl) (by rw [f3_g]; rfl)) ?_
  refine sm (vT #[(Value.map (some f3_b)), (vB true)]) ?_
  refine sv (v := (Value.map (some f3_b))) (by kernel_rfl) ?_
  refine sv (v := (vB true)) (by kernel_rfl) ?_
  refine sv (v := (Value.map (some f3_b))) (x_assign rfl) ?_
  refine sv (v := (vB true)) (x_assign rfl) ?_
  refine wn (hK2_ _ _ ?_)
  refine C_seq (fun _ hK34_ => ?_)
  refine A_start (S := fun w => Rd zb [(Value.map (some kb)), (Value.iface 183 (vQ tb)), (Value.map (some wb)), (Value.map (some ib))] w ∧ MpRd Value.string kb KM w ∧ Rd tb [(vQ (rt sb W)), (vI .i64 cnt), (vQ sb)] w ∧ RtRd w (rt sb W) (rmx W) ∧ (Rd sb [(Value.nilIface), (Value.nilIface), (Value.nilIface), (Value.nilIface), (vP none), (vP none), (vP none), (vI .i64 0)] w ∧ Blk w sb) ∧ MpRd pn wb (aggm PM) w ∧ Sub R (hp w)) (N := 13) foll rfl rfl ?_
  have H35_ := Holds.drew_ H
  have hq36_ := And.intro (Holds.rd H35_ 1 rfl) (And.intro (Holds.mprd H35_ 2 rfl) (And.intro (Holds.rd H35_ 4 rfl) (And.intro (Holds.tr_rd H35_ 5 rfl 6 rfl) (And.intro ((And.intro (Holds.rdf H35_ 6 rfl) (Holds.blk H35_ 6 rfl))) (And.intro (Holds.mprd H35_ 7 rfl) ((Holds.ro_at H35_ 0 rfl)))))))
  refine A_tk 0 (v := (vB true)) rfl (by kernel_rfl) (fun w hS => x_move rfl) hq36_ ?_
  refine A_tk 1 (v := (vB true)) rfl (by kernel_rfl) (fun w hS => x_move rfl) hq36_ ?_
  refine A_tkN 2 (j := 1) (dj := 17) (b := true) rfl (by kernel_rfl) rfl rfl rfl (by decide) hq36_ ?_
  refine A_tkN 3 (j := 1) (dj := 17) (b := true) rfl (by kernel_rfl) rfl rfl rfl (by decide) hq36_ ?_
  refine A_tkN 4 (j := 1) (dj := 17) (b := true) rfl (by kernel_rfl) rfl rfl rfl (by decide) hq36_ ?_
  refine A_tkN 5 (j := 1) (dj := 17) (b := true) rfl (by kernel_rfl) rfl rfl rfl (by decide) hq36_ ?_
  refine A_tkN 6 (j := 1) (dj := 17) (b := true) rfl (by kernel_rfl) rfl rfl rfl (by decide) hq36_ ?_
  refine A_tkN 7 (j := 1) (dj := 17) (b := true) rfl (by kernel_rfl) rfl rfl rfl (by decide) hq36_ ?_
  refine A_tkN 8 (j := 1) (dj := 17) (b := true) rfl (by kernel_rfl) rfl rfl rfl (by decide) hq36_ ?_
  refine A_tkN 9 (j := 1) (dj := 17) (b := true) rfl (by kernel_rfl) rfl rfl rfl (by decide) hq36_ ?_
  refine A_tkN 10 (j := 1) (dj := 17) (b := true) rfl (by kernel_rfl) rfl rfl rfl (by decide) hq36_ ?_
  refine A_tk 11 (v := (vB true)) rfl (by kernel_rfl) (fun w hS => (x_pickT rfl rfl)) hq36_ ?_
  refine A_tk 12 (v := (vB true)) rfl (by kernel_rfl) (fun w hS => x_assign rfl) hq36_ ?_
  refine A_done (by kernel_rfl) ?_
  refine (X_then (hK34_ _ _ ?_))
  refine C_ret ?_
  refine R_any (v := (vB true)) (run_results1 rfl rfl) ?_
  exact ⟨_, _, rfl, ⟨(congrArg vB ((any_sees.2 (.inl ((kd_M hG k).1 ⟨f3_y, f3_m, f3_k⟩))).symm : true = (List.any (gws PM) (fun x => seesB x k)))), rfl⟩, (Same.trans (Same.refl w) (Same.drew _)), H35_⟩

set_option maxHeartbeats 1600000 in
theorem gzContains (R : HP) (zb kb tb sb wb ib : Nat) (cnt : Int) (PM : List (Nat × GW)) (KM : List (ByteArray × Value)) (S : List Nat) (W : TR) (k : ByteArray) (hG : GSt R PM KM S W) (hcn : cnt = (List.length (ino W) : Int) ∧ (ino W).length ≤ List.length PM) (hpl : PM.length ≤ 100000) (hk : k.size ≠ 0) (hks : k.size ≤ 1000000000000000) (hP : ∀ x ∈ gws PM, WProper x) :
    Tri Tryz.prog 45 #[(vQ zb), (Value.string k)] R [cl zb 97 [(Value.map (some kb)), (Value.iface 183 (vQ tb)), (Value.map (some wb)), (Value.map (some ib))], mp Value.string kb KM, setsP (List.map Prod.fst PM) S, cl tb 185 [(vQ (rt sb W)), (vI .i64 cnt), (vQ sb)], tr sb sb W, clf sb 182 [(Value.nilIface), (Value.nilIface), (Value.nilIface), (Value.nilIface), (vP none), (vP none), (vP none), (vI .i64 0)], mp pn wb (aggm PM)] (fun v__ post__ => v__ = (vB (List.any (gws PM) (fun x => seesB x k))) ∧ post__ = [cl zb 97 [(Value.map (some kb)), (Value.iface 183 (vQ tb)), (Value.map (some wb)), (Value.map (some ib))], mp Value.string kb KM, setsP (List.map Prod.fst PM) S, cl tb 185 [(vQ (rt sb W)), (vI .i64 cnt), (vQ sb)], tr sb sb W, clf sb 182 [(Value.nilIface), (Value.nilIface), (Value.nilIface), (Value.nilIface), (vP none), (vP none), (vP none), (vI .i64 0)], mp pn wb (aggm PM)]) := by
 refine Tri.into (n := 10) (al := [(vQ zb), (Value.string k)]) func45 rfl ntmps45 rfl rfl fun w F H => ?_
 refine cr fun _ hK1_ => ?_
 refine sv (v := (vB false)) (x_assign rfl) ?_
 refine wn (hK1_ _ _ ?_)
 refine cr fun _ hK2_ => ?_
 refine sm (vQ zb) ?_
 refine sv (v := (vQ zb)) (by kernel_rfl) ?_
 refine sv (v := (vQ zb)) (by kernel_rfl) ?_
 refine sm (Value.string k) ?_
 refine S_list (T_call (al := [(vQ zb), (Value.string k)]) (pre := [cl zb 97 [(Value.map (some kb)), (Value.iface 183 (vQ tb)), (Value.map (some wb)), (Value.map (some ib))], mp Value.string kb KM, setsP (List.map Prod.fst PM) S, cl tb 185 [(vQ (rt sb W)), (vI .i64 cnt), (vQ sb)], tr sb sb W, clf sb 182 [(Value.nilIface), (Value.nilIface), (Value.nilIface), (Value.nilIface), (vP none), (vP none), (vP none), (vI .i64 0)], mp pn wb (aggm PM)]) rfl rfl cb67 (ggContains R zb kb tb sb wb ib cnt PM KM S W k (hG) (hcn) (hpl) (hk) (hks) (hP)) H ?_)
 rintro v3_ p7_ w4_ ⟨rfl, rfl⟩ S6_ H5_
 have S8_ := Same.trans (Same.refl w) S6_
 refine sv (v := (vB (List.any (gws PM) (fun x => seesB x k)))) (x_assign rfl) ?_
 refine wn (hK2_ _ _ ?_)
 refine C_ret ?_
 refine R_any (v := (vB (List.any (gws PM) (fun x => seesB x k)))) (run_results1 rfl rfl) ?_
 exact ⟨_, _, rfl, ⟨rfl, rfl⟩, S8_, H5_⟩
end Go.Proofs.YtlnihndjepjagaaGreat
set_option linter.unusedVariables false
set_option linter.unusedSimpArgs false
namespace Go.Proofs.YtlnihndjepjagaaGreat
open Go Go.RowKit Gw Tryz
open Go.Value renaming int → vI, bool → vB, slice → vS, pointer → vP, agg → vA, tuple → vT

def lenTab : ByteArray := ByteArray.mk (List.toArray (List.append (List.append [0, 1, 2, 2, 3, 3, 3, 3, 4, 4, 4, 4, 4, 4, 4, 4, 5, 5, 5, 5, 5, 5, 5, 5, 5, 5, 5, 5, 5, 5, 5, 5, 6, 6, 6, 6, 6, 6, 6, 6, 6, 6, 6, 6, 6, 6, 6, 6, 6, 6, 6, 6, 6, 6, 6, 6, 6, 6, 6, 6, 6, 6, 6, 6] [7, 7, 7, 7, 7, 7, 7, 7, 7, 7, 7, 7, 7, 7, 7, 7, 7, 7, 7, 7, 7, 7, 7, 7, 7, 7, 7, 7, 7, 7, 7, 7, 7, 7, 7, 7, 7, 7, 7, 7, 7, 7, 7, 7, 7, 7, 7, 7, 7, 7, 7, 7, 7, 7, 7, 7, 7, 7, 7, 7, 7, 7, 7, 7]) (List.append [8, 8, 8, 8, 8, 8, 8, 8, 8, 8, 8, 8, 8, 8, 8, 8, 8, 8, 8, 8, 8, 8, 8, 8, 8, 8, 8, 8, 8, 8, 8, 8, 8, 8, 8, 8, 8, 8, 8, 8, 8, 8, 8, 8, 8, 8, 8, 8, 8, 8, 8, 8, 8, 8, 8, 8, 8, 8, 8, 8, 8, 8, 8, 8] [8, 8, 8, 8, 8, 8, 8, 8, 8, 8, 8, 8, 8, 8, 8, 8, 8, 8, 8, 8, 8, 8, 8, 8, 8, 8, 8, 8, 8, 8, 8, 8, 8, 8, 8, 8, 8, 8, 8, 8, 8, 8, 8, 8, 8, 8, 8, 8, 8, 8, 8, 8, 8, 8, 8, 8, 8, 8, 8, 8, 8, 8, 8, 8])))
theorem lenTab_len : (ints lenTab).length = 256 := by kernel_rfl

set_option maxHeartbeats 1600000 in
theorem kLen (R : HP) (n : Nat) (hn : n ≤ 1) :
    Tri Tryz.prog 70 #[(vI .u64 (n : Int))] R [] (fun v__ post__ => ∃ (r : Int), v__ = (vI .i64 r) ∧ post__ = []) := by
 refine Tri.into (n := 8) (al := [(vI .u64 (n : Int))]) func70 rfl ntmps70 rfl rfl fun w F H => ?_
 refine cr fun _ hK1_ => ?_
 refine sv (v := (vI .i64 0)) (x_assign rfl) ?_
 refine wn (hK1_ _ _ ?_)
 refine C_seq (fun _ hK2_ => ?_)
 refine C_condF rfl ?_
 refine C_skip (X_then (hK2_ _ _ ?_))
 refine cr fun _ hK3_ => ?_
 refine sm (vI .u64 (n : Int)) ?_
 refine S_list (T_callW (al := [(vI .u64 (n : Int))]) rfl rfl cb98 (Calls.into (n := 25) func98 rfl ntmps98 rfl rfl ?_))
 refine cr fun _ hK4_ => ?_
 refine sv (v := (vI .i64 0)) (x_assign rfl) ?_
 refine wn (hK4_ _ _ ?_)
 refine C_seq (fun _ hK5_ => ?_)
 refine cr fun _ hK6_ => ?_
 refine sm (vI .u64 (n : Int)) ?_
 refine sv (v := (vB (decide (4294967296 ≤ (n : Int))))) (x_bin rfl rfl rfl) ?_
 refine wn (hK6_ _ _ ?_)
 refine C_cond (b := decide (4294967296 ≤ (n : Int))) rfl (fun c7_t => ?_) (fun c7_f => ?_)
 ·have c7_tp : 4294967296 ≤ (n : Int) := of_decide_eq_true c7_t
  omega
 ·have c7_fp : ¬ (4294967296 ≤ (n : Int)) := of_decide_eq_false c7_f
  refine C_skip (X_then (hK5_ _ _ ?_))
  refine C_seq (fun _ hK8_ => ?_)
  refine cr fun _ hK9_ => ?_
  refine sm (vI .u64 (n : Int)) ?_
  refine sv (v := (vB (decide (65536 ≤ (n : Int))))) (x_bin rfl rfl rfl) ?_
  refine wn (hK9_ _ _ ?_)
  refine C_cond (b := decide (65536 ≤ (n : Int))) rfl (fun c10_t => ?_) (fun c10_f => ?_)
  ·have c10_tp : 65536 ≤ (n : Int) := of_decide_eq_true c10_t
   omega
  ·have c10_fp : ¬ (65536 ≤ (n : Int)) := of_decide_eq_false c10_f
   refine C_skip (X_then (hK8_ _ _ ?_))
   refine C_seq (fun _ hK11_ => ?_)
   refine cr fun _ hK12_ => ?_
   refine sm (vI .u64 (n : Int)) ?_
   refine sv (v := (vB (decide (256 ≤ (n : Int))))) (x_bin rfl rfl rfl) ?_
   refine wn (hK12_ _ _ ?_)
   refine C_cond (b := decide (256 ≤ (n : Int))) rfl (fun c13_t => ?_) (fun c13_f => ?_)
   ·have c13_tp : 256 ≤ (n : Int) := of_decide_eq_true c13_t
    omega
   ·have c13_fp : ¬ (256 ≤ (n : Int)) := of_decide_eq_false c13_f
    refine C_skip (X_then (hK11_ _ _ ?_))
    refine cr fun _ hK14_ => ?_
    refine sm (vI .i64 0) ?_
    refine sm (vI .u64 (n : Int)) ?_
    refine sv (v := (vI .u8 (n : Int))) (x_convI rfl underlying209 underlying5 (IntWalk.u8_in _ (by omega))) ?_
    obtain ⟨x15_, hx16_, hm17_⟩ := elem_at (ints lenTab) n (by rw [lenTab_len]; omega)
    refine sv (v := (vI .u8 x15_)) (x_strIdx (i := n) rfl rfl underlying9 (by omega) (by omega) hx16_) ?_
    refine sv (v := (vI .i64 (IntKind.i64.wrap x15_))) (x_convI rfl underlying5 underlying3 rfl) ?_
    refine sv (v := (vI .i64 (IntKind.i64.wrap (0 + (IntKind.i64.wrap x15_))))) (x_bin rfl rfl rfl) ?_
    refine sv (v := (vI .i64 (IntKind.i64.wrap (0 + (IntKind.i64.wrap x15_))))) (x_assign rfl) ?_
    refine wn (hK14_ _ _ ?_)
    refine C_ret ?_
    refine R_any (v := (vI .i64 (IntKind.i64.wrap (0 + (IntKind.i64.wrap x15_))))) (run_results1 rfl rfl) ⟨_, rfl, ?_⟩
    refine sv (v := (vI .i64 (IntKind.i64.wrap (0 + (IntKind.i64.wrap x15_))))) (x_assign rfl) ?_
    refine wn (hK3_ _ _ ?_)
    refine C_ret ?_
    refine R_any (v := (vI .i64 (IntKind.i64.wrap (0 + (IntKind.i64.wrap x15_))))) (run_results1 rfl rfl) ?_
    exact ⟨_, _, rfl, ⟨IntKind.i64.wrap (0 + (IntKind.i64.wrap x15_)), rfl, rfl⟩, (Same.refl w), H⟩

set_option maxHeartbeats 1600000 in
theorem kIns1 (R : HP) (v : Value) (Ks : List Int) (m : Nat) (hm : m ≤ 1) :
    Tri Tryz.prog 88 #[v, (vI .i64 0), (vI .i64 (m : Int))] R [sl 2 1 v (List.length Ks) (Ks.map (vI .i64))] (fun v__ post__ => v__ = (vT #[]) ∧ post__ = [sl 2 1 v (List.length Ks) (Ks.map (vI .i64))]) := by
 refine Tri.into (n := 49) (al := [v, (vI .i64 0), (vI .i64 (m : Int))]) func88 rfl ntmps88 rfl rfl fun w F H => ?_
 refine cr fun _ hK1_ => ?_
 refine sm (vI .i64 0) ?_
 refine sv (v := (vI .i64 1)) (x_bin rfl rfl (by rfl)) ?_
 refine sv (v := (vI .i64 1)) (x_assign rfl) ?_
 refine wn (hK1_ _ _ ?_)
 refine C_block ?_
 refine C_loop (γ := Unit) (fun _ a__ w1__ => ∃ h : Env, a__ = mkA 49 (upd (upd (upd (upd h 0 v) 1 (vI .i64 0)) 2 (vI .i64 (m : Int))) 6 (vI .i64 1)) [] ∧ Holds w1__ (ro R :: sl 2 1 v (List.length Ks) (Ks.map (vI .i64)) :: F) ∧ Same w w1__) (fun _ => 0) (()) ⟨_, congrArg (fun e => mkA 49 e []) (ch (ch (ch (ch rfl rfl) rfl) rfl) rfl), H, (Same.refl w)⟩ ?_
 rintro _ _ w2_ ⟨h, rfl, H3_, S4_⟩
 refine C_seq (fun _ hK5_ => ?_)
 refine cr fun _ hK6_ => ?_
 refine sm (vI .i64 1) ?_
 refine sm (vI .i64 (m : Int)) ?_
 refine sv (v := (vB (decide (1 < (m : Int))))) (x_bin rfl rfl rfl) ?_
 refine wn (hK6_ _ _ ?_)
 refine C_cond (b := decide (1 < (m : Int))) rfl (fun c7_t => ?_) (fun c7_f => ?_)
 ·have c7_tp : 1 < (m : Int) := of_decide_eq_true c7_t
  omega
 ·have c7_fp : ¬ (1 < (m : Int)) := of_decide_eq_false c7_f
  refine C_exit (X_thenX (X_thenX (X_blkHit ?_)))
  refine R_0 rfl ?_
  exact ⟨_, _, rfl, ⟨rfl, rfl⟩, S4_, H3_⟩

set_option maxHeartbeats 1600000 in
theorem kPdq1 (R : HP) (v : Value) (Ks : List Int) (m : Nat) (lim : Int) (hm : m ≤ 1) :
    Tri Tryz.prog 69 #[v, (vI .i64 0), (vI .i64 (m : Int)), (vI .i64 lim)] R [sl 2 1 v (List.length Ks) (Ks.map (vI .i64))] (fun v__ post__ => v__ = (vT #[]) ∧ post__ = [sl 2 1 v (List.length Ks) (Ks.map (vI .i64))]) := by
 refine Tri.into (n := 134) (al := [v, (vI .i64 0), (vI .i64 (m : Int)), (vI .i64 lim)]) func69 rfl ntmps69 rfl rfl fun w F H => ?_
 refine cr fun _ hK1_ => ?_
 refine sv (v := (vB true)) (x_assign rfl) ?_
 refine wn (hK1_ _ _ ?_)
 refine cr fun _ hK2_ => ?_
 refine sv (v := (vB true)) (x_assign rfl) ?_
 refine wn (hK2_ _ _ ?_)
 refine C_block ?_
 refine C_loop (γ := Bool × Bool) (fun x__ a__ w1__ => match x__ with | ⟨e8_v, n9_v⟩ => ∃ h : Env, a__ = mkA 134 (upd (upd (upd (upd (upd (upd h 0 v) 1 (vI .i64 0)) 2 (vI .i64 (m : Int))) 3 (vI .i64 lim)) 8 (vB e8_v)) 9 (vB n9_v)) [] ∧ Holds w1__ (ro R :: sl 2 1 v (List.length Ks) (Ks.map (vI .i64)) :: F) ∧ Same w w1__) (fun x__ => match x__ with | ⟨e8_v, n9_v⟩ => 0) (⟨true, true⟩) ⟨_, congrArg (fun e => mkA 134 e []) (ch (ch (ch (ch (ch (ch rfl rfl) rfl) rfl) rfl) rfl) rfl), H, (Same.refl w)⟩ ?_
 rintro ⟨e8_v, n9_v⟩ _ w3_ ⟨h, rfl, H4_, S5_⟩
 refine C_block ?_
 refine cr fun _ hK6_ => ?_
 refine sm (vI .i64 (m : Int)) ?_
 refine sm (vI .i64 0) ?_
 refine sv (v := (vI .i64 ((m : Int) - 0))) (x_bin rfl rfl (ib_sub (IntWalk.i64_in _ (by omega)))) ?_
 refine sv (v := (vI .i64 ((m : Int) - 0))) (x_assign rfl) ?_
 refine wn (hK6_ _ _ ?_)
 refine C_seq (fun _ hK7_ => ?_)
 refine cr fun _ hK8_ => ?_
 refine sm (vI .i64 ((m : Int) - 0)) ?_
 refine sv (v := (vB (decide ((m : Int) - 0 ≤ 12)))) (x_bin rfl rfl rfl) ?_
 refine wn (hK8_ _ _ ?_)
 refine C_cond (b := decide ((m : Int) - 0 ≤ 12)) rfl (fun c9_t => ?_) (fun c9_f => ?_)
 ·have c9_tp : (m : Int) - 0 ≤ 12 := of_decide_eq_true c9_t
  refine cr fun _ hK10_ => ?_
  refine sv (v := v) (x_move rfl) ?_
  refine sm (vI .i64 0) ?_
  refine sm (vI .i64 (m : Int)) ?_
  refine S_list (T_call (al := [v, (vI .i64 0), (vI .i64 (m : Int))]) (pre := [sl 2 1 v (List.length Ks) (Ks.map (vI .i64))]) rfl rfl cb88 (kIns1 R v Ks m (by first | assumption | omega)) H4_ ?_)
  rintro v11_ p15_ w12_ ⟨rfl, rfl⟩ S14_ H13_
  have S16_ := Same.trans S5_ S14_
  refine wn (hK10_ _ _ ?_)
  refine C_ret (X_thenR (X_blkR (X_thenR (X_blkR ?_))))
  refine R_0r rfl ?_
  exact ⟨_, _, rfl, ⟨rfl, rfl⟩, S16_, H13_⟩
 ·have c9_fp : ¬ ((m : Int) - 0 ≤ 12) := of_decide_eq_false c9_f
  omega

set_option maxHeartbeats 1600000 in
theorem kSort1 (R : HP) (v : Value) (Ks : List Int) (hK : Ks.length ≤ 1) :
    Tri Tryz.prog 47 #[v] R [sl 2 1 v (List.length Ks) (Ks.map (vI .i64))] (fun v__ post__ => v__ = (vT #[]) ∧ post__ = [sl 2 1 v (List.length Ks) (Ks.map (vI .i64))]) := by
 refine Tri.into (n := 11) (al := [v]) func47 rfl ntmps47 rfl rfl fun w F H => ?_
 refine cr fun _ hK1_ => ?_
 refine sv (v := v) (x_move rfl) ?_
 refine sv (v := (vI .i64 ((List.length Ks) : Int))) (x_lenSl rfl H 1 rfl underlying40) ?_
 refine sv (v := (vI .i64 ((List.length Ks) : Int))) (x_assign rfl) ?_
 refine wn (hK1_ _ _ ?_)
 refine C_reg ?_
 refine sv (v := v) (x_move rfl) ?_
 refine sm (vI .i64 ((List.length Ks) : Int)) ?_
 refine sm (vI .i64 ((List.length Ks) : Int)) ?_
 refine sv (v := (vI .u64 (Ks.length : Int))) (x_convI rfl underlying3 underlying148 (IntWalk.u64_in _ (by omega))) ?_
 refine S_list (T_call (al := [(vI .u64 (Ks.length : Int))]) (pre := []) rfl rfl cb70 (kLen R Ks.length (by first | assumption | omega)) H ?_)
 rintro v2_ p7_ w4_ ⟨r3_, rfl, rfl⟩ S6_ H5_
 have S8_ := Same.trans (Same.refl w) S6_
 refine S_list (T_call (al := [v, (vI .i64 0), (vI .i64 (Ks.length : Int)), (vI .i64 r3_)]) (pre := [sl 2 1 v (List.length Ks) (Ks.map (vI .i64))]) rfl (lcons rfl (lcons rfl (lcons (congrArg (vI .i64) ((by first | rfl | omega | (simp; done) | (simp; omega)) : ((List.length Ks) : Int) = (Ks.length : Int))) rfl))) cb69 (kPdq1 R v Ks Ks.length r3_ (by first | assumption | omega)) H5_ ?_)
 rintro v9_ p13_ w10_ ⟨rfl, rfl⟩ S12_ H11_
 have S14_ := Same.trans S8_ S12_
 refine wpList_nil ?_
 refine R_0 rfl ?_
 exact ⟨_, _, rfl, ⟨rfl, rfl⟩, S14_, H11_⟩
end Go.Proofs.YtlnihndjepjagaaGreat
set_option linter.unusedVariables false
set_option linter.unusedSimpArgs false
namespace Go.Proofs.YtlnihndjepjagaaGreat
open Go Go.RowKit Gw Tryz
open Go.Value renaming int → vI, bool → vB, slice → vS, pointer → vP, agg → vA, tuple → vT

set_option maxHeartbeats 1600000 in
theorem grStab0 (R : HP) (tb q sb : Nat) (cnt : Int) (i1 i2 : ByteArray) (hc : cnt = 0) :
    Tri Tryz.prog 161 #[(vQ tb), (vA #[(Value.iface 222 (Value.string i1)), (Value.iface 222 (Value.string i2))])] R [cl tb 185 [(vQ q), (vI .i64 cnt), (vQ sb)]] (fun v__ post__ => v__ = (vS none 0 0) ∧ post__ = [cl tb 185 [(vQ q), (vI .i64 cnt), (vQ sb)]]) := by
 refine Tri.into (n := 17) (al := [(vQ tb), (vA #[(Value.iface 222 (Value.string i1)), (Value.iface 222 (Value.string i2))])]) func161 rfl ntmps161 rfl rfl fun w F H => ?_
 refine cr fun _ hK1_ => ?_
 refine S_list (T_box (v := (vA #[(Value.iface 222 (Value.string i1)), (Value.iface 222 (Value.string i2))])) rfl H ?_)
 intro b2_ w3_ S5_ H4_
 have S6_ := Same.trans (Same.refl w) S5_
 refine S_list (T_alloc z195 H4_ ?_)
 intro b7_ w8_ S10_ H9_
 have S11_ := Same.trans S6_ S10_
 refine wn (hK1_ _ _ ?_)
 refine C_seq (fun _ hK12_ => ?_)
 refine cr fun _ hK13_ => ?_
 refine sm (vQ tb) ?_
 refine sv (v := (vQ tb)) (by kernel_rfl) ?_
 refine sv (v := (vP (some ⟨tb, 1, none⟩))) (by kernel_rfl) ?_
 refine sv (v := (vI .i64 cnt)) (x_load1 rfl underlying3 rfl ((Holds.rd H9_ 3 rfl) 1 (vI .i64 cnt) rfl)) ?_
 refine sv (v := (vB (decide (cnt = 0)))) (x_bin rfl rfl rfl) ?_
 refine wn (hK13_ _ _ ?_)
 refine C_cond (b := decide (cnt = 0)) rfl (fun c14_t => ?_) (fun c14_f => ?_)
 ·have c14_tp : cnt = 0 := of_decide_eq_true c14_t
  refine cr fun _ hK15_ => ?_
  refine S_list0 (T_store1 (v := (vS none 0 0)) rfl rfl z195 rfl H9_ 0 rfl (Nat.le_of_ble_eq_true (by rfl)) ?_)
  intro w16_ S18_ H17_
  have S19_ := Same.trans S11_ S18_
  refine wn (hK15_ _ _ ?_)
  refine C_ret (X_thenR ?_)
  refine R_any (v := (vS none 0 0)) (run_results1 rfl ⟨_, rfl, load_res1 underlying195 rfl (Holds.cl_cell H17_ 0 rfl (k := 0) (v := (vS none 0 0)) rfl)⟩) ?_
  have H20_ := Holds.pkF H17_ [2, 2] 2
  exact ⟨_, _, rfl, ⟨rfl, rfl⟩, S19_, H20_⟩
 ·have c14_fp : ¬ (cnt = 0) := of_decide_eq_false c14_f
  omega

set_option maxHeartbeats 8000000 in
theorem ggByKey (R : HP) (zb kb tb sb wb ib : Nat) (cnt : Int) (KM : List (ByteArray × Value)) (S : List Nat) (W : TR) (a : Nat) (x : GW) (hG : GSt R [(a, x)] KM S W) (hcn : cnt = (List.length (ino W) : Int) ∧ (ino W).length ≤ List.length [(a, x)]) (hx : x.hasEnd = false) (hks : x.key.size ≤ 1000000000000000) :
    Tri Tryz.prog 68 #[(vQ zb), (Value.string x.key)] R [cl zb 97 [(Value.map (some kb)), (Value.iface 183 (vQ tb)), (Value.map (some wb)), (Value.map (some ib))], mp Value.string kb KM, setsP (List.map Prod.fst [(a, x)]) S, cl tb 185 [(vQ (rt sb W)), (vI .i64 cnt), (vQ sb)], tr sb sb W, clf sb 182 [(Value.nilIface), (Value.nilIface), (Value.nilIface), (Value.nilIface), (vP none), (vP none), (vP none), (vI .i64 0)], mp pn wb (aggm [(a, x)])] (fun v__ post__ => ∃ (b : Nat), v__ = (Value.map (some b)) ∧ post__ = [cl zb 97 [(Value.map (some kb)), (Value.iface 183 (vQ tb)), (Value.map (some wb)), (Value.map (some ib))], mp Value.string kb KM, setsP (List.map Prod.fst [(a, x)]) S, cl tb 185 [(vQ (rt sb W)), (vI .i64 cnt), (vQ sb)], tr sb sb W, clf sb 182 [(Value.nilIface), (Value.nilIface), (Value.nilIface), (Value.nilIface), (vP none), (vP none), (vP none), (vI .i64 0)], mp pn wb (aggm [(a, x)])] ∧ (b ∈ S)) := by
 obtain ⟨kv, ev, cn, hwc, hkv, hev⟩ := hG.w (a, x) (by simp)
 have hrc := RC.of_cells hwc
 have hi0_ := lf_of (x := x) hG.t hx
 have hc0_ : cnt = 0 := by rw [hcn.1, hi0_]; rfl
 refine Tri.into (n := 79) (al := [(vQ zb), (Value.string x.key)]) func68 rfl ntmps68 rfl rfl fun w F H => ?_
 refine cr fun _ hK1_ => ?_
 refine sv (v := (Value.map none)) (x_assign rfl) ?_
 refine wn (hK1_ _ _ ?_)
 refine cr fun _ hK2_ => ?_
 refine sm (vQ zb) ?_
 refine sv (v := (vQ zb)) (by kernel_rfl) ?_
 refine sv (v := (vQ zb)) (by kernel_rfl) ?_
 refine sv (v := (Value.map (some kb))) (x_load1 rfl underlying87 rfl ((Holds.rd H 1 rfl) 0 (Value.map (some kb)) rfl)) ?_
 refine sm (Value.string x.key) ?_
 obtain ⟨f3_y, f3_m, f3_k, f3_g⟩ : ∃ y ∈ KM, y.1 = x.key ∧ mget KM x.key = some y.2 := by
  rcases mget_or KM x.key with ⟨h1, _⟩ | h
  · obtain ⟨y, h2, h3⟩ := (hG.kd x.key).2 ⟨(a, x), by simp, hx, rfl⟩
    exact absurd h3 (h1 y h2)
  · exact h
 ·skip
  obtain ⟨f3_b, f3_b_, f3_v⟩ := hG.k.v f3_y f3_m
  rw [f3_v] at f3_g
  refine sv (v := (Value.map (some f3_b))) (x_lookup (K := Value.string) (a := x.key) (m := KM) rfl rfl (KeyKind.string underlying9) underlying87 z91 (Holds.mprd H 2 rfl) (by rw [f3_g]; rfl)) ?_
  refine sv (v := (Value.map (some f3_b))) (x_assign rfl) ?_
  refine wn (hK2_ _ _ ?_)
  refine C_seq (fun _ hK4_ => ?_)
  refine A_start (S := fun w => Rd zb [(Value.map (some kb)), (Value.iface 183 (vQ tb)), (Value.map (some wb)), (Value.map (some ib))] w ∧ MpRd Value.string kb KM w ∧ Rd tb [(vQ (rt sb W)), (vI .i64 cnt), (vQ sb)] w ∧ RtRd w (rt sb W) (rmx W) ∧ (Rd sb [(Value.nilIface), (Value.nilIface), (Value.nilIface), (Value.nilIface), (vP none), (vP none), (vP none), (vI .i64 0)] w ∧ Blk w sb) ∧ MpRd pn wb (aggm [(a, x)]) w ∧ Sub R (hp w)) (N := 10) foll rfl rfl ?_
  have H5_ := Holds.drew_ H
  have hq6_ := And.intro (Holds.rd H5_ 1 rfl) (And.intro (Holds.mprd H5_ 2 rfl) (And.intro (Holds.rd H5_ 4 rfl) (And.intro (Holds.tr_rd H5_ 5 rfl 6 rfl) (And.intro ((And.intro (Holds.rdf H5_ 6 rfl) (Holds.blk H5_ 6 rfl))) (And.intro (Holds.mprd H5_ 7 rfl) ((Holds.ro_at H5_ 0 rfl)))))))
  refine A_tk 0 (v := (vQ zb)) rfl (by kernel_rfl) (fun w hS => x_move rfl) hq6_ ?_
  refine A_tk 1 (v := (vQ zb)) rfl (by kernel_rfl) (fun w hS => by kernel_rfl) hq6_ ?_
  refine A_tk 2 (v := (vP (some ⟨zb, 1, none⟩))) rfl (by kernel_rfl) (fun w hS => by kernel_rfl) hq6_ ?_
  refine A_tk 3 (v := (Value.iface 183 (vQ tb))) rfl (by kernel_rfl) (fun w hS => x_load1 rfl underlying89 rfl (hS.1 1 (Value.iface 183 (vQ tb)) rfl)) hq6_ ?_
  refine A_tk 4 (v := (Value.string x.key)) rfl (by kernel_rfl) (fun w hS => x_move rfl) hq6_ ?_
  refine A_tk 6 (v := (Value.iface 183 (vQ tb))) rfl (by kernel_rfl) (fun w hS => by kernel_rfl) hq6_ ?_
  refine A_tk 7 (v := (Value.iface 183 (vQ tb))) rfl (by kernel_rfl) (fun w hS => x_move rfl) hq6_ ?_
  refine A_ready (i := 5) (rs := []) (by kernel_rfl) ?_
  refine AllR.cons ?_ AllR.nil
  refine A_op (ls' := #[true, true, true, true, true, true, true, true, false, false]) rfl (by kernel_rfl) (T_callW (al := [(Value.string x.key)]) rfl rfl cb86 (Calls.into (n := 7) func86 rfl ntmps86 rfl rfl ?_))
  refine cr fun _ hK7_ => ?_
  refine S_list (T_alloc z177 H5_ ?_)
  intro b8_ w9_ S11_ H10_
  have S12_ := Same.trans (Same.trans (Same.refl w) (Same.drew _)) S11_
  refine wn (hK7_ _ _ ?_)
  refine cr fun _ hK13_ => ?_
  refine sm (Value.string x.key) ?_
  refine sm (Value.string x.key) ?_
  refine sv (v := (Value.string (x.key ++ (ByteArray.mk #[0])))) (x_str rfl rfl (so_add (by have h1__ : (ByteArray.mk #[0]).size = 1 := rfl; omega)) (by decide)) ?_
  have H15_ := ((Holds.bring H10_ 1 rfl) :)
  refine S_list (T_call (al := [(Value.string x.key), (Value.string (x.key ++ (ByteArray.mk #[0])))]) (pre := []) rfl rfl cb83 (grNewIv R x.key (x.key ++ (ByteArray.mk #[0]))) H15_ ?_)
  rintro v14_ p19_ w16_ ⟨rfl, rfl⟩ S18_ H17_
  have S20_ := Same.trans S12_ S18_
  refine S_list0 (T_storeN (vs := [(Value.iface 222 (Value.string x.key)), (Value.iface 222 (Value.string (x.key ++ (ByteArray.mk #[0]))))]) rfl rfl z177 rfl (by simp [Value.oneCell']) H17_ 1 rfl (Nat.le_of_ble_eq_true (by rfl)) ?_)
  intro w21_ S23_ H22_
  have S24_ := Same.trans S20_ S23_
  refine wn (hK13_ _ _ ?_)
  refine C_ret ?_
  refine R_any (v := (vA #[(Value.iface 222 (Value.string x.key)), (Value.iface 222 (Value.string (x.key ++ (ByteArray.mk #[0]))))])) (run_results1 rfl ⟨_, rfl, load_resN underlying177 rfl z177 rfl (vs := [(Value.iface 222 (Value.string x.key)), (Value.iface 222 (Value.string (x.key ++ (ByteArray.mk #[0]))))]) (Holds.cl_cells H22_ 1 rfl 0 rfl)⟩) ⟨_, rfl, ?_⟩
  refine ⟨⟨Holds.rd H22_ 2 rfl, Holds.mprd H22_ 3 rfl, Holds.rd H22_ 5 rfl, Holds.tr_rd H22_ 6 rfl 7 rfl, (And.intro (Holds.rdf H22_ 7 rfl) (Holds.blk H22_ 7 rfl)), Holds.mprd H22_ 8 rfl, (Holds.ro_at H22_ 0 rfl)⟩, ?_⟩
  refine A_ready (i := 8) (rs := []) (by kernel_rfl) ?_
  refine AllR.cons ?_ AllR.nil
  have H26_ := ((Holds.bring (Holds.bring H22_ 5 rfl) 1 rfl) :)
  refine A_op (ls' := #[true, true, true, true, true, true, true, true, true, false]) rfl (by kernel_rfl) (T_invoke (al := [(vQ tb), (vA #[(Value.iface 222 (Value.string x.key)), (Value.iface 222 (Value.string (x.key ++ (ByteArray.mk #[0]))))])]) (pre := [cl tb 185 [(vQ (rt sb W)), (vI .i64 cnt), (vQ sb)]]) rfl (fun w => by kernel_rfl) rfl cb161 (grStab0 R tb (rt sb W) sb cnt x.key (x.key ++ (ByteArray.mk #[0])) (hc0_)) H26_ ?_)
  rintro v25_ p30_ w27_ ⟨rfl, rfl⟩ S29_ H28_
  have S31_ := Same.trans S24_ S29_
  refine ⟨⟨Holds.rd H28_ 3 rfl, Holds.mprd H28_ 4 rfl, Holds.rd H28_ 1 rfl, Holds.tr_rd H28_ 6 rfl 7 rfl, (And.intro (Holds.rdf H28_ 7 rfl) (Holds.blk H28_ 7 rfl)), Holds.mprd H28_ 8 rfl, (Holds.ro_at H28_ 0 rfl)⟩, ?_⟩
  have hq32_ := And.intro (Holds.rd H28_ 3 rfl) (And.intro (Holds.mprd H28_ 4 rfl) (And.intro (Holds.rd H28_ 1 rfl) (And.intro (Holds.tr_rd H28_ 6 rfl 7 rfl) (And.intro ((And.intro (Holds.rdf H28_ 7 rfl) (Holds.blk H28_ 7 rfl))) (And.intro (Holds.mprd H28_ 8 rfl) ((Holds.ro_at H28_ 0 rfl)))))))
  refine A_tk 9 (v := (vS none 0 0)) rfl (by kernel_rfl) (fun w hS => x_assign rfl) hq32_ ?_
  refine A_done (by kernel_rfl) ?_
  refine (X_then (hK4_ _ _ ?_))
  refine C_seq (fun _ hK33_ => ?_)
  refine C_block ?_
  refine cr fun _ hK34_ => ?_
  refine sm (vS none 0 0) ?_
  refine sv (v := (vI .i64 0)) (x_lenS rfl underlying195) ?_
  refine sv (v := (vB true)) (x_bin rfl rfl rfl) ?_
  refine sv (v := (vB true)) (x_assign rfl) ?_
  refine wn (hK34_ _ _ ?_)
  refine C_condT rfl ?_
  refine cr fun _ hK35_ => ?_
  refine sm (Value.map (some f3_b)) ?_
  refine sv (v := (Value.map (some f3_b))) (x_assign rfl) ?_
  refine wn (hK35_ _ _ ?_)
  refine C_ret (X_blkR (X_thenR ?_))
  refine R_any (v := (Value.map (some f3_b))) (run_results1 rfl rfl) ?_
  have H36_ := Holds.pkF H28_ [0, 2, 2, 2, 0, 1, 1, 1] 1
  exact ⟨_, _, rfl, ⟨f3_b, rfl, rfl, (f3_b_)⟩, S31_, H36_⟩

set_option maxHeartbeats 8000000 in
theorem gzByKey (R : HP) (zb kb tb sb wb ib : Nat) (cnt : Int) (KM : List (ByteArray × Value)) (S : List Nat) (W : TR) (a : Nat) (x : GW) (hG : GSt R [(a, x)] KM S W) (hcn : cnt = (List.length (ino W) : Int) ∧ (ino W).length ≤ List.length [(a, x)]) (hx : x.hasEnd = false) (hks : x.key.size ≤ 1000000000000000) :
    Tri Tryz.prog 46 #[(vQ zb), (Value.string x.key)] R [cl zb 97 [(Value.map (some kb)), (Value.iface 183 (vQ tb)), (Value.map (some wb)), (Value.map (some ib))], mp Value.string kb KM, setsP (List.map Prod.fst [(a, x)]) S, cl tb 185 [(vQ (rt sb W)), (vI .i64 cnt), (vQ sb)], tr sb sb W, clf sb 182 [(Value.nilIface), (Value.nilIface), (Value.nilIface), (Value.nilIface), (vP none), (vP none), (vP none), (vI .i64 0)], mp pn wb (aggm [(a, x)])] (fun v__ post__ => ∃ (v' : Value), v__ = v' ∧ post__ = [cl zb 97 [(Value.map (some kb)), (Value.iface 183 (vQ tb)), (Value.map (some wb)), (Value.map (some ib))], mp Value.string kb KM, setsP (List.map Prod.fst [(a, x)]) S, cl tb 185 [(vQ (rt sb W)), (vI .i64 cnt), (vQ sb)], tr sb sb W, clf sb 182 [(Value.nilIface), (Value.nilIface), (Value.nilIface), (Value.nilIface), (vP none), (vP none), (vP none), (vI .i64 0)], mp pn wb (aggm [(a, x)]), sl 2 1 v' (List.length [x.iD]) ([x.iD].map (vI .i64))]) := by
 obtain ⟨kv, ev, cn, hwc, hkv, hev⟩ := hG.w (a, x) (by simp)
 have hrc := RC.of_cells hwc
 have hi0_ := lf_of (x := x) hG.t hx
 have hc0_ : cnt = 0 := by rw [hcn.1, hi0_]; rfl
 refine Tri.into (n := 25) (al := [(vQ zb), (Value.string x.key)]) func46 rfl ntmps46 rfl rfl fun w F H => ?_
 refine cr fun _ hK1_ => ?_
 refine sv (v := (vS none 0 0)) (x_assign rfl) ?_
 refine wn (hK1_ _ _ ?_)
 refine cr fun _ hK2_ => ?_
 refine sv (v := (vS none 0 0)) (x_assign rfl) ?_
 refine wn (hK2_ _ _ ?_)
 refine C_seq (fun _ hK3_ => ?_)
 refine cr fun _ hK4_ => ?_
 refine sm (vQ zb) ?_
 refine sv (v := (vQ zb)) (by kernel_rfl) ?_
 refine sv (v := (vQ zb)) (by kernel_rfl) ?_
 refine sm (Value.string x.key) ?_
 refine S_list (T_call (al := [(vQ zb), (Value.string x.key)]) (pre := [cl zb 97 [(Value.map (some kb)), (Value.iface 183 (vQ tb)), (Value.map (some wb)), (Value.map (some ib))], mp Value.string kb KM, setsP (List.map Prod.fst [(a, x)]) S, cl tb 185 [(vQ (rt sb W)), (vI .i64 cnt), (vQ sb)], tr sb sb W, clf sb 182 [(Value.nilIface), (Value.nilIface), (Value.nilIface), (Value.nilIface), (vP none), (vP none), (vP none), (vI .i64 0)], mp pn wb (aggm [(a, x)])]) rfl rfl cb68 (ggByKey R zb kb tb sb wb ib cnt KM S W a x (hG) (hcn) (hx) (hks)) H ?_)
 rintro v5_ p11_ w8_ ⟨b6_, rfl, rfl, he7_⟩ S10_ H9_
 have S12_ := Same.trans (Same.refl w) S10_
 have H13_ := ((Holds.bring H9_ 3 rfl) :)
 obtain ⟨m14_, hm15_, H16_⟩ := Holds.set_out H13_ he7_
 obtain ⟨v17_, rfl⟩ := one_set (a := a) hm15_
 have H18_ := H16_
 ·skip
  refine S_list (T_range rfl underlying91 H18_ 0 rfl ?_)
  intro r19_ w20_ S22_ H21_
  have S23_ := Same.trans S12_ S22_
  refine wn (hK4_ _ _ ?_)
  refine C_block ?_
  have H24_ : Holds w20_ (sl 2 1 (vS none 0 0) (List.length ([] : List Int)) (([] : List Int).map (vI .i64)) :: rg pn b6_ r19_ [(a, v17_)] [(a, v17_)] none :: setsP (List.map Prod.fst [(a, x)]) (S.filter fun c => decide (c ≠ b6_)) :: ro R :: cl zb 97 [(Value.map (some kb)), (Value.iface 183 (vQ tb)), (Value.map (some wb)), (Value.map (some ib))] :: mp Value.string kb KM :: cl tb 185 [(vQ (rt sb W)), (vI .i64 cnt), (vQ sb)] :: tr sb sb W :: clf sb 182 [(Value.nilIface), (Value.nilIface), (Value.nilIface), (Value.nilIface), (vP none), (vP none), (vP none), (vI .i64 0)] :: mp pn wb (aggm [(a, x)]) :: F) := Holds.add_nil H21_ 2 1
  refine C_loop (γ := (List (Nat × Value)) × (Option (Nat × Value)) × Value × (List Int)) (fun x__ a__ w1__ => match x__ with | ⟨left, cu, ov, out⟩ => ∃ h : Env, a__ = mkA 25 (upd (upd (upd h 4 (vS none 0 0)) 5 ov) 12 (vQ r19_)) [] ∧ Holds w1__ (sl 2 1 ov (List.length out) (out.map (vI .i64)) :: rg pn b6_ r19_ [(a, v17_)] left cu :: setsP (List.map Prod.fst [(a, x)]) (S.filter fun c => decide (c ≠ b6_)) :: ro R :: cl zb 97 [(Value.map (some kb)), (Value.iface 183 (vQ tb)), (Value.map (some wb)), (Value.map (some ib))] :: mp Value.string kb KM :: cl tb 185 [(vQ (rt sb W)), (vI .i64 cnt), (vQ sb)] :: tr sb sb W :: clf sb 182 [(Value.nilIface), (Value.nilIface), (Value.nilIface), (Value.nilIface), (vP none), (vP none), (vP none), (vI .i64 0)] :: mp pn wb (aggm [(a, x)]) :: F) ∧ Same w w1__ ∧ (out.length + left.length = 1) ∧ (∀ i ∈ out, i = x.iD) ∧ (∀ p ∈ left, p.1 = a)) (fun x__ => match x__ with | ⟨left, cu, ov, out⟩ => left.length) (⟨[(a, v17_)], none, (vS none 0 0), ([] : List Int)⟩) ⟨_, congrArg (fun e => mkA 25 e []) (ch (ch (ch rfl rfl) (rfl : (vS none 0 0) = ((vS none 0 0)))) rfl), H24_, S23_, (rfl), (fun i hi => by cases hi), (fun p hp => by rw [List.mem_singleton.1 hp])⟩ ?_
  rintro ⟨left, cu, ov, out⟩ _ w25_ ⟨h, rfl, H26_, S27_, hlo, hoi, hla⟩
  refine cr fun _ hK28_ => ?_
  refine S_list (T_next rfl H26_ 1 rfl (fun hl29_ => ?_) ?_)
  ·skip
   refine sv (v := (vB false)) (by kernel_rfl) ?_
   refine wn (hK28_ _ _ ?_)
   refine C_seq (fun _ hK38_ => ?_)
   refine C_condF rfl ?_
   refine C_exit (X_thenX (X_thenX (X_blkHit ?_)))
   refine (X_then (hK3_ _ _ ?_))
   refine cr fun _ hK39_ => ?_
   refine sv (v := ov) (x_move rfl) ?_
   refine sv (v := ov) (x_assign rfl) ?_
   refine wn (hK39_ _ _ ?_)
   refine C_ret ?_
   refine R_any (v := ov) (run_results1 rfl rfl) ?_
   have hon_ := one_out (c := x.iD) (by rw [hl29_] at hlo; simpa using hlo) hoi
   have H40_ := Holds.resl H26_ 0 rfl (by rw [hon_] : out.map (vI .i64) = [x.iD].map (vI .i64)) (by rw [hon_] : (List.length out) = (List.length [x.iD]))
   have H41_ := Holds.rg_end H40_ 1 rfl
   have H42_ := ((Holds.bring (Holds.bring H41_ 2 rfl) 2 rfl) :)
   have H43_ := Holds.set_back H42_ hm15_
   have H44_ := H43_
   have H45_ := Holds.pkF H44_ [2, 2, 2, 0, 1, 1, 1, 1, 0] 0
   exact ⟨_, _, rfl, ⟨ov, rfl, rfl⟩, S27_, H45_⟩
  ·rintro ⟨p30_a, p30_v⟩ l31_ l32_ he33_
   intro w34_ S36_ H35_
   have S37_ := Same.trans S27_ S36_
   refine sv (v := (vB true)) (by kernel_rfl) ?_
   refine wn (hK28_ _ _ ?_)
   refine C_seq (fun _ hK46_ => ?_)
   refine C_condT rfl ?_
   refine C_skip (X_then (hK46_ _ _ ?_))
   refine C_block ?_
   refine cr fun _ hK47_ => ?_
   refine S_list (T_entry rfl H35_ 1 rfl ?_)
   refine sv (v := (vQ p30_a)) (by kernel_rfl) ?_
   refine sv (v := (vQ p30_a)) (x_assign rfl) ?_
   refine wn (hK47_ _ _ ?_)
   refine C_reg ?_
   have hpa48_ : a = p30_a := (hla (p30_a, p30_v) (by rw [he33_]; simp)).symm
   have hpa48_r : RC R p30_a 0 [kv, ev, (vB false), (vB false), (vB false), (vI .i64 0), (vI .i64 x.minRev), (vI .i64 x.iD), (vS none 0 0), cn] := hpa48_ ▸ hrc
   ·skip
    refine sv (v := ov) (x_move rfl) ?_
    refine sm (vQ p30_a) ?_
    refine sv (v := (vQ p30_a)) (by kernel_rfl) ?_
    refine sv (v := (vP (some ⟨p30_a, 7, none⟩))) (by kernel_rfl) ?_
    refine sv (v := (vI .i64 x.iD)) (x_load1 rfl underlying137 rfl (RC.cell hpa48_r (Holds.ro_at H35_ 3 rfl) (j := 7) (u := (vI .i64 x.iD)) (rfl))) ?_
    refine S_list (T_new (obj := .cells #[(vI .i64 x.iD)] 2) (f := fun b__ => .slice (some ⟨b__, 0, none⟩) 1 1) (A := fun b__ => cl b__ 2 [(vI .i64 x.iD)]) (by kernel_rfl) (fun l h => h.alloc _ _) H35_ ?_)
    intro b49_ w50_ S52_ H51_
    have S53_ := Same.trans S37_ S52_
    refine S_list (T_append rfl rfl underlying40 z2 rfl (by decide) H51_ 1 rfl (Holds.cl_src H51_ 0 rfl underlying40 (by simp [Value.oneCell']) rfl) (by omega) ?_)
    intro v54_ w55_ S57_ H56_
    have S58_ := Same.trans S53_ S57_
    refine sv (v := v54_) (x_assign rfl) ?_
    refine wpList_nil (X_blkN (X_then ?_))
    have H59_ := Holds.resl H56_ 1 rfl (by simp : (out.map (vI .i64)) ++ [(vI .i64 x.iD)] = (out ++ [x.iD]).map (vI .i64)) (by simp : (List.length out) + 1 = (List.length (out ++ [x.iD])))
    have H60_ := Holds.pkF H59_ [1, 1, 1, 1, 1, 1, 1, 1, 1, 1] 1
    exact ⟨⟨l31_ ++ l32_, (some (p30_a, p30_v)), v54_, (out ++ [x.iD])⟩, ⟨_, congrArg (fun e => mkA 25 e []) (ch (ch (ch rfl rfl) rfl) rfl), H60_, S58_, (by rw [he33_] at hlo; simp at hlo ⊢; omega), (fun i hi => (List.mem_append.1 hi).elim (hoi i) (fun h => List.mem_singleton.1 h)), (fun p hp => hla p (by rw [he33_]; simp at hp ⊢; rcases hp with h | h <;> simp [h]))⟩, (by have h9_ := congrArg List.length he33_; simp at h9_ ⊢; omega)⟩
end Go.Proofs.YtlnihndjepjagaaGreat
set_option linter.unusedVariables false
set_option linter.unusedSimpArgs false
namespace Go.Proofs.YtlnihndjepjagaaGreat
open Go Go.RowKit Gw Tryz
open Go.Value renaming int → vI, bool → vB, slice → vS, pointer → vP, agg → vA, tuple → vT

structure GO where
  kind : Int
  w_ID : Int
  w_Key : ByteArray
  w_End : ByteArray
  w_HasEnd : Bool
  w_MinRev : Int
  key : ByteArray
  cur : Int
  compact : Int
  events : Value
def GO.cells (x : GO) : List Value := [(vI .i64 x.kind), (vI .i64 x.w_ID), (Value.string x.w_Key), (Value.string x.w_End), (vB x.w_HasEnd), (vI .i64 x.w_MinRev), (Value.string x.key), (vI .i64 x.cur), (vI .i64 x.compact), x.events]
theorem GO.len (x : GO) : x.cells.length = 10 := rfl

structure GA where
  oK : Bool
  n : Int
  iDs : Value
  told : Value
def GA.cells (x : GA) : List Value := [(vB x.oK), (vI .i64 x.n), x.iDs, x.told]
theorem GA.len (x : GA) : x.cells.length = 4 := rfl

def wOf (o : GO) : GW := ⟨o.w_ID, o.w_Key, o.w_End, o.w_HasEnd, o.w_MinRev⟩
theorem prop_bad {x : GW} (hP : WProper x) (h : x.hasEnd = true) : (x.key.toList == (ByteArray.mk #[]).toList) = false ∧ ((!(x.end_.toList == (ByteArray.mk #[]).toList)) = true → (Op.bytesLess x.end_.toList x.key.toList || x.end_.toList == x.key.toList) = false) := by
  obtain ⟨h1, h2⟩ := hP h
  refine ⟨Bool.eq_false_iff.2 fun e => h1 (empty_iff.1 e), fun h3 => ?_⟩
  have h4 : x.end_.size ≠ 0 := fun e => by rw [empty_iff.2 e] at h3; cases h3
  have h5 := h2.resolve_left h4
  rw [toList_data, toList_data] at h5 ⊢
  have h6 := bl_lt.1 h5
  have h7 := cb_flip x.key.data.toList x.end_.data.toList
  rw [Bool.or_eq_false_iff]
  refine ⟨Bool.eq_false_iff.2 fun e => ?_, ?_⟩
  · have := bl_lt.1 e; omega
  · rw [beq_eq_false_iff_ne]
    intro e
    rw [e, cb_refl] at h6
    omega

section
variable {P : Program} {n : Nat} {e : Env} {w : World} {l : List SP} {K' : Value → World → Prop} {d : Option Nat} {ty : TypeId} {pos : String} {af : Array Edge} {g : Option (Nat × Bool)}
theorem T_appendS {t tx el bb : Nat} {o1 o2 : Operand} {z : Value} {b : Nat} {u : ByteArray} (h1 : ev n e o1 = .slice (some ⟨b, 0, none⟩) 0 0) (h2 : ev n e o2 = .string u) (ht : P.underlying t = some (.slice el)) (hx : P.underlying tx = some .string) (hz : tin P el = some (1, bb, some z))
    (hzs : z.cells.size = 1) (hb : 0 < bb) (h : Holds w l) (i : Nat) (hi : l[i]? = some (sl el 1 (.slice (some ⟨b, 0, none⟩) 0 0) 0 [])) (hroom : u.size * bb ≤ 140737488355328)
    (kk : ∀ (ea : Addr) (cap : Nat) w', Same w w' → Holds w' (l.set i (sl el 1 (.slice (some ea) u.size cap) u.size (byteCells u))) → K' (.slice (some ea) u.size cap) w') :
    Stp P n e ⟨d, .call { callee := .builtin .append, args := #[o1, o2], argTypes := #[t, tx] }, ty, pos, af, g⟩ w K' := by
  have hs := Src.ofString (P := P) w hx u
  have hset : l.set i (sl el 1 (.slice (some ⟨b, 0, none⟩) 0 0) 0 []) = l := by
    obtain ⟨hl, he⟩ := List.getElem?_eq_some_iff.1 hi
    rw [← he]; simp
  have key : ∃ (ea : Addr) (cap : Nat) (w' : World), (Builtin.append_ #[t, tx] ty #[.slice (some ⟨b, 0, none⟩) 0 0, .string u]).run P w = .ok (.slice (some ea) u.size cap) w' ∧ Same w w' ∧ Holds w' (l.set i (sl el 1 (.slice (some ea) u.size cap) u.size (byteCells u))) := by
    by_cases h0 : u.size = 0
    · obtain ⟨ti, hti, e1, e2, e3⟩ := tin_info hz
      have hb0 : byteCells u = [] := by
        have := byteCells_length u
        rw [h0] at this
        exact List.eq_nil_of_length_eq_zero this
      have hr := run_append_room_src (P := P) w t tx ty el ti ht hti b 0 0 0 (.string u) u.size (byteCells u) (by rw [e1]; exact hs) (by omega) (fun j hj => by rw [hb0] at hj; cases hj) (fun j hj => by rw [hb0] at hj; cases hj)
      rw [hb0] at hr
      refine ⟨⟨b, 0, none⟩, 0, w, ?_, Same.refl w, ?_⟩
      · rw [hr, h0]; rfl
      · rw [h0, hb0, hset]; exact h
    · obtain ⟨v', w', hr, hsm, hh⟩ := run_append_sl (ty := ty) ht hz hzs hb h i hi hs (by simpa using hroom)
      rw [Nat.zero_add, List.nil_append] at hh
      have hl : i < l.length := (List.getElem?_eq_some_iff.1 hi).1
      rcases hh.sl_at i (by rw [List.getElem?_set_self hl]) with ⟨_, hm, _⟩ | ⟨b', pr, sp, cap, rfl, _⟩
      · exact absurd hm h0
      · exact ⟨_, cap, w', hr, hsm, hh⟩
  obtain ⟨ea, cap, w', hr, hsm, hh⟩ := key
  refine .inl ⟨_, w', ?_, kk ea cap w' hsm hh⟩
  simp only [execOp, resolve, Sem.run_bind, Sem.run_pure, Result.andThen_ok, invoke, builtin]
  simp [h1, h2, hr]
end


set_option maxHeartbeats 1600000 in
theorem gEnd (R : HP) (s : ByteArray) (h : Bool) (hz : s.size ≤ 2147483647) :
    TriG Tryz.prog 43 #[(Value.string s), (vB h)] R [] (fun R' v__ post__ => (v__ = (vS none 0 0) ∧ post__ = [] ∧ (h = false)) ∨ (∃ (ea : Addr) (em ec : Nat), v__ = (vS (some ea) em ec) ∧ post__ = [] ∧ (h = true) ∧ (RS R' 1 (vS (some ea) em ec) (List.length (ints s)) (bytesV (ints s))))) := by
 refine TriG.into (n := 10) (al := [(Value.string s), (vB h)]) func43 rfl ntmps43 rfl rfl fun w F H => ?_
 refine cr fun _ hK1_ => ?_
 refine sv (v := (vS none 0 0)) (x_assign rfl) ?_
 refine wn (hK1_ _ _ ?_)
 refine C_seq (fun _ hK2_ => ?_)
 refine cr fun _ hK3_ => ?_
 refine sm (vB h) ?_
 refine sv (v := (vB (!h))) (x_not rfl) ?_
 refine wn (hK3_ _ _ ?_)
 refine C_cond (b := !h) rfl (fun c4_t => ?_) (fun c4_f => ?_)
 ·skip
  refine cr fun _ hK5_ => ?_
  refine sv (v := (vS none 0 0)) (x_assign rfl) ?_
  refine wn (hK5_ _ _ ?_)
  refine C_ret (X_thenR ?_)
  refine R_any (v := (vS none 0 0)) (run_results1 rfl rfl) ?_
  exact ⟨R, _, _, rfl, (Sub.rfl' _), (.inl ⟨rfl, rfl, (by simpa using c4_t)⟩), (Same.refl w), H⟩
 ·skip
  refine C_skip (X_then (hK2_ _ _ ?_))
  refine cr fun _ hK6_ => ?_
  refine S_list (T_new (obj := .cells #[] 5) (f := fun b__ => .slice (some ⟨b__, 0, none⟩) 0 0) (A := fun b__ => cl b__ 5 []) (by kernel_rfl) (fun l h => h.alloc _ _) H ?_)
  intro b7_ w8_ S10_ H9_
  have S11_ := Same.trans (Same.refl w) S10_
  refine sm (Value.string s) ?_
  have H12_ : Holds w8_ (cl b7_ 5 ([] ++ [] ++ []) :: ro R :: F) := cast1 (P := fun (c__ : List Value) => Holds w8_ (cl b7_ 5 c__ :: ro R :: F)) (by kernel_rfl : [] = [] ++ [] ++ []) H9_
  have H13_ : Holds w8_ (sl 5 1 (vS (some ⟨b7_, 0, none⟩) 0 0) 0 [] :: ro R :: F) := Holds.to_sl H12_ 0 [] [] (xs := []) (m := 0) (cap := 0) (sz := 1) rfl (by kernel_rfl) (by kernel_rfl) (by omega)
  refine S_list (T_appendS (b := b7_) (u := s) rfl rfl underlying101 underlying9 z5 rfl (by decide) H13_ 0 rfl (by omega) ?_)
  intro ea14_ c15_ w16_ S18_ H17_
  have S19_ := Same.trans S11_ S18_
  refine sv (v := (vS (some ea14_) s.size c15_)) (x_assign rfl) ?_
  refine wn (hK6_ _ _ ?_)
  refine C_ret ?_
  refine R_any (v := (vS (some ea14_) s.size c15_)) (run_results1 rfl rfl) ?_
  have H20_ := Holds.resl H17_ 0 rfl (byteCells_bytesV s : byteCells s = bytesV (ints s)) ((ints_length s).symm : s.size = (List.length (ints s)))
  have H21_ := ((Holds.bring H20_ 1 rfl) :)
  obtain ⟨R22_, hs23_, ⟨R24_, ha25_, hs26_⟩, H27_⟩ := Holds.gift H21_
  have hr28_ : RS R22_ 1 (vS (some ea14_) s.size c15_) (List.length (ints s)) (bytesV (ints s)) := (sl_RS ha25_ (Sub.rfl' _)).mono hs26_
  exact ⟨R22_, _, _, rfl, hs23_, (.inr ⟨ea14_, s.size, c15_, rfl, rfl, (by simpa using c4_f), (hr28_)⟩), S19_, H27_⟩

set_option maxHeartbeats 16000000 in
theorem gdAdd (R : HP) (zb kb tb sb wb ib : Nat) (cnt : Int) (PM : List (Nat × GW)) (KM : List (ByteArray × Value)) (S : List Nat) (W : TR) (o : GO) (hG : GSt R PM KM S W) (hcn : cnt = (List.length (ino W) : Int) ∧ (ino W).length ≤ List.length PM) (hpl : PM.length ≤ 100000) (hnd : (ids PM).Nodup) (hk : o.kind = 1) (hP : WProper (wOf o)) (h5 : PM.length < 500) (hz : o.w_End.size ≤ 2147483647) :
    TriG Tryz.prog 25 #[(vQ zb), (vA #[(vI .i64 o.kind), (vI .i64 o.w_ID), (Value.string o.w_Key), (Value.string o.w_End), (vB o.w_HasEnd), (vI .i64 o.w_MinRev), (Value.string o.key), (vI .i64 o.cur), (vI .i64 o.compact), o.events])] R [cl zb 97 [(Value.map (some kb)), (Value.iface 183 (vQ tb)), (Value.map (some wb)), (Value.map (some ib))], mp Value.string kb KM, setsP (List.map Prod.fst PM) S, cl tb 185 [(vQ (rt sb W)), (vI .i64 cnt), (vQ sb)], tr sb sb W, clf sb 182 [(Value.nilIface), (Value.nilIface), (Value.nilIface), (Value.nilIface), (vP none), (vP none), (vP none), (vI .i64 0)], mp pn wb (aggm PM), mp (vI .i64) ib (idm PM)] (fun R' v__ post__ => (v__ = (vA #[(vB false), (vI .i64 0), (vS none 0 0), (vS none 0 0)]) ∧ post__ = [cl zb 97 [(Value.map (some kb)), (Value.iface 183 (vQ tb)), (Value.map (some wb)), (Value.map (some ib))], mp Value.string kb KM, setsP (List.map Prod.fst PM) S, cl tb 185 [(vQ (rt sb W)), (vI .i64 cnt), (vQ sb)], tr sb sb W, clf sb 182 [(Value.nilIface), (Value.nilIface), (Value.nilIface), (Value.nilIface), (vP none), (vP none), (vP none), (vI .i64 0)], mp pn wb (aggm PM), mp (vI .i64) ib (idm PM)] ∧ (∃ p ∈ PM, p.2.iD = o.w_ID)) ∨ (∃ (a : Nat) (KM' : List (ByteArray × Value)) (S' : List Nat) (W' : TR) (cnt' : Int), v__ = (vA #[(vB true), (vI .i64 0), (vS none 0 0), (vS none 0 0)]) ∧ post__ = [cl zb 97 [(Value.map (some kb)), (Value.iface 183 (vQ tb)), (Value.map (some wb)), (Value.map (some ib))], mp Value.string kb KM', setsP (List.map Prod.fst (PM ++ [(a, (wOf o))])) S', cl tb 185 [(vQ (rt sb W')), (vI .i64 cnt'), (vQ sb)], tr sb sb W', clf sb 182 [(Value.nilIface), (Value.nilIface), (Value.nilIface), (Value.nilIface), (vP none), (vP none), (vP none), (vI .i64 0)], mp pn wb (aggm (PM ++ [(a, (wOf o))])), mp (vI .i64) ib (idm (PM ++ [(a, (wOf o))]))] ∧ (∀ p ∈ PM, p.2.iD ≠ o.w_ID) ∧ (GSt R' (PM ++ [(a, (wOf o))]) KM' S' W') ∧ (cnt' = (List.length (ino W') : Int) ∧ (ino W').length ≤ List.length (PM ++ [(a, (wOf o))])))) := by
 refine TriG.into (n := 154) (al := [(vQ zb), (vA #[(vI .i64 o.kind), (vI .i64 o.w_ID), (Value.string o.w_Key), (Value.string o.w_End), (vB o.w_HasEnd), (vI .i64 o.w_MinRev), (Value.string o.key), (vI .i64 o.cur), (vI .i64 o.compact), o.events])]) func25 rfl ntmps25 rfl rfl fun w F H => ?_
 refine cr fun _ hK1_ => ?_
 refine S_list (T_box (v := (vA #[(vI .i64 o.kind), (vI .i64 o.w_ID), (Value.string o.w_Key), (Value.string o.w_End), (vB o.w_HasEnd), (vI .i64 o.w_MinRev), (Value.string o.key), (vI .i64 o.cur), (vI .i64 o.compact), o.events])) rfl H ?_)
 intro b2_ w3_ S5_ H4_
 have S6_ := Same.trans (Same.refl w) S5_
 refine S_list (T_alloc z42 H4_ ?_)
 intro b7_ w8_ S10_ H9_
 have S11_ := Same.trans S6_ S10_
 refine wn (hK1_ _ _ ?_)
 refine cr fun _ hK12_ => ?_
 refine sv (v := (vA #[(vB false), (vI .i64 0), (vS none 0 0), (vS none 0 0)])) (by kernel_rfl) ?_
 refine S_list (T_alloc z42 H9_ ?_)
 intro b13_ w14_ S16_ H15_
 have S17_ := Same.trans S11_ S16_
 refine S_list0 (T_storeN (vs := [(vB false), (vI .i64 0), (vS none 0 0), (vS none 0 0)]) rfl rfl z42 rfl (by simp [Value.oneCell']) H15_ 0 rfl (Nat.le_of_ble_eq_true (by rfl)) ?_)
 intro w18_ S20_ H19_
 have S21_ := Same.trans S17_ S20_
 refine wn (hK12_ _ _ ?_)
 refine C_seq (fun _ hK22_ => ?_)
 refine cr fun _ hK23_ => ?_
 refine sv (v := (vQ b2_)) (by kernel_rfl) ?_
 refine sv (v := (vI .i64 o.kind)) (x_load1 rfl underlying3 rfl ((Holds.rd H19_ 2 rfl) 0 (vI .i64 o.kind) rfl)) ?_
 refine wn (hK23_ _ _ ?_)
 refine C_block ?_
 refine cr fun _ hK24_ => ?_
 refine sv (v := (vB (decide (o.kind = 1)))) (x_bin rfl rfl rfl) ?_
 refine sv (v := (vB (decide (o.kind = 1)))) (x_assign rfl) ?_
 refine wn (hK24_ _ _ ?_)
 refine C_cond (b := decide (o.kind = 1)) rfl (fun c25_t => ?_) (fun c25_f => ?_)
 ·have c25_tp : o.kind = 1 := of_decide_eq_true c25_t
  refine C_seq (fun _ hK26_ => ?_)
  refine cr fun _ hK27_ => ?_
  refine sm (vQ zb) ?_
  refine sv (v := (vP (some ⟨b2_, 1, none⟩))) (by kernel_rfl) ?_
  refine sv (v := (vP (some ⟨b2_, 1, none⟩))) (by kernel_rfl) ?_
  refine sv (v := (vI .i64 o.w_ID)) (x_load1 rfl underlying2 rfl ((Holds.rd H19_ 2 rfl) 1 (vI .i64 o.w_ID) rfl)) ?_
  have H31_ := ((Holds.bring (Holds.bring (Holds.bring H19_ 11 rfl) 5 rfl) 5 rfl) :)
  refine S_list (T_call (al := [(vQ zb), (vI .i64 o.w_ID)]) (pre := [cl zb 97 [(Value.map (some kb)), (Value.iface 183 (vQ tb)), (Value.map (some wb)), (Value.map (some ib))], mp (vI .i64) ib (idm PM)]) rfl rfl cb40 (gzHas R zb kb tb sb wb ib cnt PM KM S W o.w_ID) H31_ ?_)
  rintro v28_ p35_ w32_ hq36_ S34_ H33_
  rcases hq36_ with ⟨rfl, rfl, he29_⟩ | ⟨rfl, rfl, he30_⟩
  ·skip
   have S37_ := Same.trans S21_ S34_
   refine sm (vB true) ?_
   refine S_no (j := 5) (dj := 18) (b := true) rfl rfl rfl (by decide) ?_
   refine S_no (j := 5) (dj := 18) (b := true) rfl rfl rfl (by decide) ?_
   refine S_no (j := 5) (dj := 18) (b := true) rfl rfl rfl (by decide) ?_
   refine S_list (T_pickT (v := (vB true)) rfl rfl ?_)
   refine sm (vB true) ?_
   refine S_no (j := 10) (dj := 23) (b := true) rfl rfl rfl (by decide) ?_
   refine S_no (j := 10) (dj := 23) (b := true) rfl rfl rfl (by decide) ?_
   refine S_no (j := 10) (dj := 23) (b := true) rfl rfl rfl (by decide) ?_
   refine S_no (j := 10) (dj := 23) (b := true) rfl rfl rfl (by decide) ?_
   refine S_noU (j := 14) (dj := 27) rfl rfl rfl ?_
   refine S_noU (j := 14) (dj := 27) rfl rfl rfl ?_
   refine S_noU (j := 14) (dj := 27) rfl rfl rfl ?_
   refine S_noU (j := 14) (dj := 27) rfl rfl rfl ?_
   refine S_noU (j := 14) (dj := 27) rfl rfl rfl ?_
   refine S_noU (j := 19) (dj := 32) rfl rfl rfl ?_
   refine S_noU (j := 19) (dj := 32) rfl rfl rfl ?_
   refine S_noU (j := 19) (dj := 32) rfl rfl rfl ?_
   refine S_noU (j := 19) (dj := 32) rfl rfl rfl ?_
   refine S_noU (j := 19) (dj := 32) rfl rfl rfl ?_
   refine S_noU (j := 24) (dj := 37) rfl rfl rfl ?_
   refine S_noU (j := 24) (dj := 37) rfl rfl rfl ?_
   refine S_noU (j := 24) (dj := 37) rfl rfl rfl ?_
   refine S_noU (j := 24) (dj := 37) rfl rfl rfl ?_
   refine S_noU (j := 24) (dj := 37) rfl rfl rfl ?_
   refine S_noU (j := 24) (dj := 37) rfl rfl rfl ?_
   refine S_noU (j := 24) (dj := 37) rfl rfl rfl ?_
   refine S_noU (j := 19) (dj := 32) rfl rfl rfl ?_
   refine S_noU (j := 14) (dj := 27) rfl rfl rfl ?_
   refine S_no (j := 10) (dj := 23) (b := true) rfl rfl rfl (by decide) ?_
   refine S_list (T_pickT (v := (vB true)) rfl rfl ?_)
   refine wn (hK27_ _ _ ?_)
   refine C_condT rfl ?_
   refine C_exit (X_thenX (X_blkHit ?_))
   refine (X_then (hK22_ _ _ ?_))
   refine cr fun _ hK39_ => ?_
   refine sv (v := (vA #[(vB false), (vI .i64 0), (vS none 0 0), (vS none 0 0)])) (x_loadN (vs := [(vB false), (vI .i64 0), (vS none 0 0), (vS none 0 0)]) rfl underlying42 rfl z42 rfl (Rd.cells (Holds.rd H33_ 3 rfl) 0 rfl)) ?_
   refine S_list0 (T_storeN (vs := [(vB false), (vI .i64 0), (vS none 0 0), (vS none 0 0)]) rfl rfl z42 rfl (by simp [Value.oneCell']) H33_ 4 rfl (Nat.le_of_ble_eq_true (by rfl)) ?_)
   intro w40_ S42_ H41_
   have S43_ := Same.trans S37_ S42_
   refine wn (hK39_ _ _ ?_)
   refine C_ret ?_
   refine R_any (v := (vA #[(vB false), (vI .i64 0), (vS none 0 0), (vS none 0 0)])) (run_results1 rfl ⟨_, rfl, load_resN underlying42 rfl z42 rfl (vs := [(vB false), (vI .i64 0), (vS none 0 0), (vS none 0 0)]) (Holds.cl_cells H41_ 4 rfl 0 rfl)⟩) ?_
   have H44_ := Holds.pkF H41_ [0, 0, 4, 4, 4, 4, 4, 4, 0] 3
   exact ⟨R, _, _, rfl, (Sub.rfl' _), (.inl ⟨rfl, rfl, (he29_)⟩), S43_, H44_⟩
  ·skip
   have S38_ := Same.trans S21_ S34_
   refine sm (vB false) ?_
   refine S_yes (j := 5) (dj := 18) (b := false) rfl rfl rfl (T_val (v := (vQ zb)) (x_move rfl) ?_)
   have H46_ := ((Holds.bring (Holds.bring (Holds.bring H33_ 11 rfl) 2 rfl) 2 rfl) :)
   refine S_yes (j := 5) (dj := 18) (b := false) rfl rfl rfl (T_call (al := [(vQ zb)]) (pre := [cl zb 97 [(Value.map (some kb)), (Value.iface 183 (vQ tb)), (Value.map (some wb)), (Value.map (some ib))], mp pn wb (aggm PM)]) rfl rfl cb41 (gzSize R zb kb tb sb wb ib cnt PM KM S W) H46_ ?_)
   rintro v45_ p50_ w47_ ⟨rfl, rfl⟩ S49_ H48_
   have S51_ := Same.trans S38_ S49_
   refine S_yes (j := 5) (dj := 18) (b := false) rfl rfl rfl (T_val (v := (vB (decide (500 ≤ (List.length PM : Int))))) (x_bin rfl rfl rfl) ?_)
   refine S_list (T_pickF (v := (vB (decide (500 ≤ (List.length PM : Int))))) rfl rfl ?_)
   refine sv (v := (vB (decide (500 ≤ (List.length PM : Int))))) (x_move rfl) ?_
   rcases Bool.eq_false_or_eq_true (decide (500 ≤ (List.length PM : Int))) with c52_t | c52_f
   ·have c52_tp : 500 ≤ (List.length PM : Int) := of_decide_eq_true c52_t
    omega
   ·have c52_fp : ¬ (500 ≤ (List.length PM : Int)) := of_decide_eq_false c52_f
    refine S_yes (j := 10) (dj := 23) (b := false) rfl rfl (congrArg vB c52_f) (T_val (v := (vP (some ⟨b2_, 1, none⟩))) (by kernel_rfl) ?_)
    refine S_yes (j := 10) (dj := 23) (b := false) rfl rfl (congrArg vB c52_f) (T_val (v := (vP (some ⟨b2_, 4, none⟩))) (by kernel_rfl) ?_)
    refine S_yes (j := 10) (dj := 23) (b := false) rfl rfl (congrArg vB c52_f) (T_val (v := (vB o.w_HasEnd)) (x_load1 rfl underlying4 rfl ((Holds.rd H48_ 6 rfl) 4 (vB o.w_HasEnd) rfl)) ?_)
    refine S_yes (j := 10) (dj := 23) (b := false) rfl rfl (congrArg vB c52_f) (T_val (v := (vB o.w_HasEnd)) (x_move rfl) ?_)
    rcases Bool.eq_false_or_eq_true (o.w_HasEnd) with c53_t | c53_f
    ·skip
     refine S_yes (j := 14) (dj := 27) (b := true) rfl rfl (congrArg vB c53_t) (T_val (v := (vP (some ⟨b2_, 1, none⟩))) (by kernel_rfl) ?_)
     refine S_yes (j := 14) (dj := 27) (b := true) rfl rfl (congrArg vB c53_t) (T_val (v := (vP (some ⟨b2_, 2, none⟩))) (by kernel_rfl) ?_)
     refine S_yes (j := 14) (dj := 27) (b := true) rfl rfl (congrArg vB c53_t) (T_val (v := (Value.string o.w_Key)) (x_load1 rfl underlying9 rfl ((Holds.rd H48_ 6 rfl) 2 (Value.string o.w_Key) rfl)) ?_)
     refine S_yes (j := 14) (dj := 27) (b := true) rfl rfl (congrArg vB c53_t) (T_val (v := (vB (o.w_Key.toList == (ByteArray.mk #[]).toList))) (x_str rfl rfl rfl (by decide)) ?_)
     refine S_yes (j := 14) (dj := 27) (b := true) rfl rfl (congrArg vB c53_t) (T_val (v := (vB (o.w_Key.toList == (ByteArray.mk #[]).toList))) (x_move rfl) ?_)
     rcases Bool.eq_false_or_eq_true (o.w_Key.toList == (ByteArray.mk #[]).toList) with c54_t | c54_f
     ·skip
      exact absurd ((prop_bad hP c53_t).1.symm.trans c54_t) (by decide)
     ·skip
      refine S_yes (j := 19) (dj := 32) (b := false) rfl rfl (congrArg vB c54_f) (T_val (v := (vP (some ⟨b2_, 1, none⟩))) (by kernel_rfl) ?_)
      refine S_yes (j := 19) (dj := 32) (b := false) rfl rfl (congrArg vB c54_f) (T_val (v := (vP (some ⟨b2_, 3, none⟩))) (by kernel_rfl) ?_)
      refine S_yes (j := 19) (dj := 32) (b := false) rfl rfl (congrArg vB c54_f) (T_val (v := (Value.string o.w_End)) (x_load1 rfl underlying9 rfl ((Holds.rd H48_ 6 rfl) 3 (Value.string o.w_End) rfl)) ?_)
      refine S_yes (j := 19) (dj := 32) (b := false) rfl rfl (congrArg vB c54_f) (T_val (v := (vB (!(o.w_End.toList == (ByteArray.mk #[]).toList)))) (x_str rfl rfl rfl (by decide)) ?_)
      refine S_yes (j := 19) (dj := 32) (b := false) rfl rfl (congrArg vB c54_f) (T_val (v := (vB (!(o.w_End.toList == (ByteArray.mk #[]).toList)))) (x_move rfl) ?_)
      rcases Bool.eq_false_or_eq_true (!(o.w_End.toList == (ByteArray.mk #[]).toList)) with c55_t | c55_f
      ·skip
       refine S_yes (j := 24) (dj := 37) (b := true) rfl rfl (congrArg vB c55_t) (T_val (v := (vP (some ⟨b2_, 1, none⟩))) (by kernel_rfl) ?_)
       refine S_yes (j := 24) (dj := 37) (b := true) rfl rfl (congrArg vB c55_t) (T_val (v := (vP (some ⟨b2_, 3, none⟩))) (by kernel_rfl) ?_)
       refine S_yes (j := 24) (dj := 37) (b := true) rfl rfl (congrArg vB c55_t) (T_val (v := (Value.string o.w_End)) (x_load1 rfl underlying9 rfl ((Holds.rd H48_ 6 rfl) 3 (Value.string o.w_End) rfl)) ?_)
       refine S_yes (j := 24) (dj := 37) (b := true) rfl rfl (congrArg vB c55_t) (T_val (v := (vP (some ⟨b2_, 1, none⟩))) (by kernel_rfl) ?_)
       refine S_yes (j := 24) (dj := 37) (b := true) rfl rfl (congrArg vB c55_t) (T_val (v := (vP (some ⟨b2_, 2, none⟩))) (by kernel_rfl) ?_)
       refine S_yes (j := 24) (dj := 37) (b := true) rfl rfl (congrArg vB c55_t) (T_val (v := (Value.string o.w_Key)) (x_load1 rfl underlying9 rfl ((Holds.rd H48_ 6 rfl) 2 (Value.string o.w_Key) rfl)) ?_)
       refine S_yes (j := 24) (dj := 37) (b := true) rfl rfl (congrArg vB c55_t) (T_val (v := (vB (Op.bytesLess o.w_End.toList o.w_Key.toList || o.w_End.toList == o.w_Key.toList))) (x_str rfl rfl rfl (by decide)) ?_)
       refine S_yes (j := 19) (dj := 32) (b := false) rfl rfl (congrArg vB c54_f) (T_pickT (v := (vB (Op.bytesLess o.w_End.toList o.w_Key.toList || o.w_End.toList == o.w_Key.toList))) (congrArg vB c55_t) rfl ?_)
       refine S_yes (j := 14) (dj := 27) (b := true) rfl rfl (congrArg vB c53_t) (T_pickF (v := (vB (Op.bytesLess o.w_End.toList o.w_Key.toList || o.w_End.toList == o.w_Key.toList))) (congrArg vB c54_f) rfl ?_)
       refine S_yes (j := 10) (dj := 23) (b := false) rfl rfl (congrArg vB c52_f) (T_pickT (v := (vB (Op.bytesLess o.w_End.toList o.w_Key.toList || o.w_End.toList == o.w_Key.toList))) (congrArg vB c53_t) rfl ?_)
       refine S_list (T_pickF (v := (vB (Op.bytesLess o.w_End.toList o.w_Key.toList || o.w_End.toList == o.w_Key.toList))) (congrArg vB c52_f) rfl ?_)
       refine wn (hK27_ _ _ ?_)
       refine C_cond (b := Op.bytesLess o.w_End.toList o.w_Key.toList || o.w_End.toList == o.w_Key.toList) rfl (fun c56_t => ?_) (fun c56_f => ?_)
       ·skip
        exact absurd (((prop_bad hP c53_t).2 c55_t).symm.trans c56_t) (by decide)
       ·skip
        refine C_skip (X_then (hK26_ _ _ ?_))
        refine C_seq (fun _ hK57_ => ?_)
        refine A_start (S := fun w => Rd zb [(Value.map (some kb)), (Value.iface 183 (vQ tb)), (Value.map (some wb)), (Value.map (some ib))] w ∧ Rd b13_ [(vB false), (vI .i64 0), (vS none 0 0), (vS none 0 0)] w ∧ Rd b7_ [(vB false), (vI .i64 0), (vS none 0 0), (vS none 0 0)] w ∧ Rd b2_ [(vI .i64 o.kind), (vI .i64 o.w_ID), (Value.string o.w_Key), (Value.string o.w_End), (vB o.w_HasEnd), (vI .i64 o.w_MinRev), (Value.string o.key), (vI .i64 o.cur), (vI .i64 o.compact), o.events] w ∧ (Rd sb [(Value.nilIface), (Value.nilIface), (Value.nilIface), (Value.nilIface), (vP none), (vP none), (vP none), (vI .i64 0)] w ∧ Blk w sb) ∧ Sub R (hp w)) (N := 19) foll rfl rfl ?_
        have H58_ := Holds.drew_ H48_
        have hq60_ := And.intro (Holds.rd H58_ 1 rfl) (And.intro (Holds.rd H58_ 4 rfl) (And.intro (Holds.rd H58_ 5 rfl) (And.intro (Holds.rd H58_ 6 rfl) (And.intro ((And.intro (Holds.rdf H58_ 11 rfl) (Holds.blk H58_ 11 rfl))) ((Holds.ro_at H58_ 0 rfl))))))
        refine A_tk 0 (v := (vQ zb)) rfl (by kernel_rfl) (fun w hS => x_move rfl) hq60_ ?_
        refine A_tk 1 (v := (vP (some ⟨b2_, 1, none⟩))) rfl (by kernel_rfl) (fun w hS => by kernel_rfl) hq60_ ?_
        refine A_tk 2 (v := (vP (some ⟨b2_, 1, none⟩))) rfl (by kernel_rfl) (fun w hS => by kernel_rfl) hq60_ ?_
        refine A_tk 3 (v := (vI .i64 o.w_ID)) rfl (by kernel_rfl) (fun w hS => x_load1 rfl underlying2 rfl (hS.2.2.2.1 1 (vI .i64 o.w_ID) rfl)) hq60_ ?_
        refine A_tk 4 (v := (vP (some ⟨b2_, 1, none⟩))) rfl (by kernel_rfl) (fun w hS => by kernel_rfl) hq60_ ?_
        refine A_tk 5 (v := (vP (some ⟨b2_, 2, none⟩))) rfl (by kernel_rfl) (fun w hS => by kernel_rfl) hq60_ ?_
        refine A_tk 6 (v := (Value.string o.w_Key)) rfl (by kernel_rfl) (fun w hS => x_load1 rfl underlying9 rfl (hS.2.2.2.1 2 (Value.string o.w_Key) rfl)) hq60_ ?_
        refine A_tk 8 (v := (vP (some ⟨b2_, 1, none⟩))) rfl (by kernel_rfl) (fun w hS => by kernel_rfl) hq60_ ?_
        refine A_tk 9 (v := (vP (some ⟨b2_, 3, none⟩))) rfl (by kernel_rfl) (fun w hS => by kernel_rfl) hq60_ ?_
        refine A_tk 10 (v := (Value.string o.w_End)) rfl (by kernel_rfl) (fun w hS => x_load1 rfl underlying9 rfl (hS.2.2.2.1 3 (Value.string o.w_End) rfl)) hq60_ ?_
        refine A_tk 11 (v := (vP (some ⟨b2_, 1, none⟩))) rfl (by kernel_rfl) (fun w hS => by kernel_rfl) hq60_ ?_
        refine A_tk 12 (v := (vP (some ⟨b2_, 4, none⟩))) rfl (by kernel_rfl) (fun w hS => by kernel_rfl) hq60_ ?_
        refine A_tk 13 (v := (vB o.w_HasEnd)) rfl (by kernel_rfl) (fun w hS => x_load1 rfl underlying4 rfl (hS.2.2.2.1 4 (vB o.w_HasEnd) rfl)) hq60_ ?_
        refine A_tk 15 (v := (vP (some ⟨b2_, 1, none⟩))) rfl (by kernel_rfl) (fun w hS => by kernel_rfl) hq60_ ?_
        refine A_tk 16 (v := (vP (some ⟨b2_, 5, none⟩))) rfl (by kernel_rfl) (fun w hS => by kernel_rfl) hq60_ ?_
        refine A_tk 17 (v := (vI .i64 o.w_MinRev)) rfl (by kernel_rfl) (fun w hS => x_load1 rfl underlying2 rfl (hS.2.2.2.1 5 (vI .i64 o.w_MinRev) rfl)) hq60_ ?_
        refine A_ready (i := 7) (rs := [14]) (by kernel_rfl) ?_
        refine AllR.cons ?_ ?_
        ·skip
         refine A_op (ls' := #[true, true, true, true, true, true, true, true, true, true, true, true, true, true, false, true, true, true, false]) rfl (by kernel_rfl) (T_s2b rfl underlying9 underlying101 underlying5 H58_ ?_)
         intro b61_ cp62_ w63_ S65_ hc66_ H64_
         have S67_ := Same.trans (Same.trans S51_ (Same.drew _)) S65_
         have H68_ := Holds.resl H64_ 0 rfl (byteCells_bytesV _ : byteCells o.w_Key = bytesV (ints o.w_Key)) rfl
         have H69_ := Holds.resl H68_ 0 rfl (rfl : bytesV (ints o.w_Key) = bytesV (ints o.w_Key)) ((ints_length _).symm : o.w_Key.size = (List.length (ints o.w_Key)))
         refine ⟨⟨Holds.rd H69_ 2 rfl, Holds.rd H69_ 5 rfl, Holds.rd H69_ 6 rfl, Holds.rd H69_ 7 rfl, (And.intro (Holds.rdf H69_ 12 rfl) (Holds.blk H69_ 12 rfl)), (Holds.ro_at H69_ 1 rfl)⟩, ?_⟩
         refine A_ready (i := 14) (rs := []) (by kernel_rfl) ?_
         refine AllR.cons ?_ AllR.nil
         have H79_ := ((Holds.bring H69_ 1 rfl) :)
         refine A_op (ls' := #[true, true, true, true, true, true, true, true, true, true, true, true, true, true, true, true, true, true, false]) rfl (by kernel_rfl) (T_callG (al := [(Value.string o.w_End), (vB o.w_HasEnd)]) (pre := []) rfl rfl cb43 (gEnd R o.w_End o.w_HasEnd (hz)) H79_ ?_)
         rintro R71_ v72_ p83_ w80_ hs70_ hq84_ S82_ H81_
         rcases hq84_ with ⟨rfl, rfl, he73_⟩ | ⟨ea74_, em75_, ec76_, rfl, rfl, he77_, he78_⟩
         ·skip
          have S85_ := Same.trans S67_ S82_
          refine ⟨⟨Holds.rd H81_ 2 rfl, Holds.rd H81_ 5 rfl, Holds.rd H81_ 6 rfl, Holds.rd H81_ 7 rfl, (And.intro (Holds.rdf H81_ 12 rfl) (Holds.blk H81_ 12 rfl)), (Sub.trans' hs70_ (Holds.ro_at H81_ 0 rfl))⟩, ?_⟩
          refine A_ready (i := 18) (rs := []) (by kernel_rfl) ?_
          refine AllR.cons ?_ AllR.nil
          obtain ⟨R87_, hs88_, ⟨R89_, ha90_, hs91_⟩, H92_⟩ := Holds.gift H81_
          have hz_R_R87_ := Sub.trans' hs70_ hs88_
          have hr93_ : RS R87_ 1 (vS (some ⟨b61_, 0, none⟩) o.w_Key.size cp62_) (List.length (ints o.w_Key)) (bytesV (ints o.w_Key)) := (sl_RS ha90_ (Sub.rfl' _)).mono hs91_
          have H104_ := ((Holds.bring (Holds.bring (Holds.bring (Holds.bring (Holds.bring (Holds.bring (Holds.bring (Holds.bring (Holds.bring H92_ 3 rfl) 3 rfl) 11 rfl) 11 rfl) 11 rfl) 11 rfl) 11 rfl) 8 rfl) 8 rfl) :)
          refine A_op (ls' := #[true, true, true, true, true, true, true, true, true, true, true, true, true, true, true, true, true, true, true]) rfl (by kernel_rfl) (T_callG (al := [(vQ zb), (vI .i64 ((wOf o).iD)), (vS (some ⟨b61_, 0, none⟩) o.w_Key.size cp62_), (vS none 0 0), (vI .i64 ((wOf o).minRev))]) (pre := [cl zb 97 [(Value.map (some kb)), (Value.iface 183 (vQ tb)), (Value.map (some wb)), (Value.map (some ib))], mp Value.string kb KM, setsP (List.map Prod.fst PM) S, cl tb 185 [(vQ (rt sb W)), (vI .i64 cnt), (vQ sb)], tr sb sb W, clf sb 182 [(Value.nilIface), (Value.nilIface), (Value.nilIface), (Value.nilIface), (vP none), (vP none), (vP none), (vI .i64 0)], mp pn wb (aggm PM), mp (vI .i64) ib (idm PM)]) rfl (lcons rfl (lcons (congrArg (vI .i64) ((by first | rfl | omega | (simp; done) | (simp; omega)) : o.w_ID = (wOf o).iD)) (lcons rfl (lcons rfl (lcons (congrArg (vI .i64) ((by first | rfl | omega | (simp; done) | (simp; omega)) : o.w_MinRev = (wOf o).minRev)) rfl))))) cb42 (gzAdd R87_ zb kb tb sb wb ib cnt PM KM S W (some ⟨b61_, 0, none⟩) none o.w_Key.size cp62_ 0 0 (wOf o) (RS.set_ hr93_ (by first | rfl | (simp [GW.cells, GO.cells, GA.cells]; done)) (by first | rfl | omega | (simp; done) | (simp; omega))) ((.inl ⟨he73_, rfl⟩)) ((hG.mono hz_R_R87_)) (hcn) (hpl) (he30_) (hnd)) H104_ ?_)
          rintro R95_ v96_ p108_ w105_ hs94_ ⟨a97_, KM98_, S99_, W100_, cnt101_, rfl, rfl, he102_, he103_⟩ S107_ H106_
          have S109_ := Same.trans S85_ S107_
          have hz_R_R95_ := Sub.trans' hz_R_R87_ hs94_
          have hz_R71__R95_ := Sub.trans' hs88_ hs94_
          refine ⟨⟨Holds.rd H106_ 1 rfl, Holds.rd H106_ 9 rfl, Holds.rd H106_ 10 rfl, Holds.rd H106_ 11 rfl, (And.intro (Holds.rdf H106_ 6 rfl) (Holds.blk H106_ 6 rfl)), (Sub.trans' hz_R_R95_ (Holds.ro_at H106_ 0 rfl))⟩, ?_⟩
          refine A_done (by kernel_rfl) ?_
          refine (X_then (hK57_ _ _ ?_))
          refine C_reg ?_
          refine sv (v := (vQ b13_)) (by kernel_rfl) ?_
          refine S_list0 (T_store1 (v := (vB true)) rfl rfl z4 rfl H106_ 9 rfl (Nat.le_of_ble_eq_true (by rfl)) ?_)
          intro w110_ S112_ H111_
          have S113_ := Same.trans S109_ S112_
          refine wpList_nil (X_blkN (X_then (hK22_ _ _ ?_)))
          refine cr fun _ hK114_ => ?_
          refine sv (v := (vA #[(vB true), (vI .i64 0), (vS none 0 0), (vS none 0 0)])) (x_loadN (vs := [(vB true), (vI .i64 0), (vS none 0 0), (vS none 0 0)]) rfl underlying42 rfl z42 rfl (Rd.cells (Holds.rd H111_ 9 rfl) 0 rfl)) ?_
          refine S_list0 (T_storeN (vs := [(vB true), (vI .i64 0), (vS none 0 0), (vS none 0 0)]) rfl rfl z42 rfl (by simp [Value.oneCell']) H111_ 10 rfl (Nat.le_of_ble_eq_true (by rfl)) ?_)
          intro w115_ S117_ H116_
          have S118_ := Same.trans S113_ S117_
          refine wn (hK114_ _ _ ?_)
          refine C_ret ?_
          refine R_any (v := (vA #[(vB true), (vI .i64 0), (vS none 0 0), (vS none 0 0)])) (run_results1 rfl ⟨_, rfl, load_resN underlying42 rfl z42 rfl (vs := [(vB true), (vI .i64 0), (vS none 0 0), (vS none 0 0)]) (Holds.cl_cells H116_ 10 rfl 0 rfl)⟩) ?_
          have H119_ := Holds.pkF H116_ [0, 0, 0, 0, 0, 0, 0, 0, 0] 3
          exact ⟨R95_, _, _, rfl, hz_R_R95_, (.inr ⟨a97_, KM98_, S99_, W100_, cnt101_, rfl, rfl, (he30_), (he102_), (he103_)⟩), S118_, H119_⟩
         ·skip
          have S86_ := Same.trans S67_ S82_
          refine ⟨⟨Holds.rd H81_ 2 rfl, Holds.rd H81_ 5 rfl, Holds.rd H81_ 6 rfl, Holds.rd H81_ 7 rfl, (And.intro (Holds.rdf H81_ 12 rfl) (Holds.blk H81_ 12 rfl)), (Sub.trans' hs70_ (Holds.ro_at H81_ 0 rfl))⟩, ?_⟩
          refine A_ready (i := 18) (rs := []) (by kernel_rfl) ?_
          refine AllR.cons ?_ AllR.nil
          obtain ⟨R120_, hs121_, ⟨R122_, ha123_, hs124_⟩, H125_⟩ := Holds.gift H81_
          have hz_R_R120_ := Sub.trans' hs70_ hs121_
          have hr126_ : RS R120_ 1 (vS (some ⟨b61_, 0, none⟩) o.w_Key.size cp62_) (List.length (ints o.w_Key)) (bytesV (ints o.w_Key)) := (sl_RS ha123_ (Sub.rfl' _)).mono hs124_
          have H137_ := ((Holds.bring (Holds.bring (Holds.bring (Holds.bring (Holds.bring (Holds.bring (Holds.bring (Holds.bring (Holds.bring H125_ 3 rfl) 3 rfl) 11 rfl) 11 rfl) 11 rfl) 11 rfl) 11 rfl) 8 rfl) 8 rfl) :)
          refine A_op (ls' := #[true, true, true, true, true, true, true, true, true, true, true, true, true, true, true, true, true, true, true]) rfl (by kernel_rfl) (T_callG (al := [(vQ zb), (vI .i64 ((wOf o).iD)), (vS (some ⟨b61_, 0, none⟩) o.w_Key.size cp62_), (vS (some ea74_) em75_ ec76_), (vI .i64 ((wOf o).minRev))]) (pre := [cl zb 97 [(Value.map (some kb)), (Value.iface 183 (vQ tb)), (Value.map (some wb)), (Value.map (some ib))], mp Value.string kb KM, setsP (List.map Prod.fst PM) S, cl tb 185 [(vQ (rt sb W)), (vI .i64 cnt), (vQ sb)], tr sb sb W, clf sb 182 [(Value.nilIface), (Value.nilIface), (Value.nilIface), (Value.nilIface), (vP none), (vP none), (vP none), (vI .i64 0)], mp pn wb (aggm PM), mp (vI .i64) ib (idm PM)]) rfl (lcons rfl (lcons (congrArg (vI .i64) ((by first | rfl | omega | (simp; done) | (simp; omega)) : o.w_ID = (wOf o).iD)) (lcons rfl (lcons rfl (lcons (congrArg (vI .i64) ((by first | rfl | omega | (simp; done) | (simp; omega)) : o.w_MinRev = (wOf o).minRev)) rfl))))) cb42 (gzAdd R120_ zb kb tb sb wb ib cnt PM KM S W (some ⟨b61_, 0, none⟩) (some ea74_) o.w_Key.size cp62_ em75_ ec76_ (wOf o) (RS.set_ hr126_ (by first | rfl | (simp [GW.cells, GO.cells, GA.cells]; done)) (by first | rfl | omega | (simp; done) | (simp; omega))) ((.inr ⟨he77_, _, _, _, rfl, (he78_.mono hs121_)⟩)) ((hG.mono hz_R_R120_)) (hcn) (hpl) (he30_) (hnd)) H137_ ?_)
          rintro R128_ v129_ p141_ w138_ hs127_ ⟨a130_, KM131_, S132_, W133_, cnt134_, rfl, rfl, he135_, he136_⟩ S140_ H139_
          have S142_ := Same.trans S86_ S140_
          have hz_R_R128_ := Sub.trans' hz_R_R120_ hs127_
          have hz_R71__R128_ := Sub.trans' hs121_ hs127_
          refine ⟨⟨Holds.rd H139_ 1 rfl, Holds.rd H139_ 9 rfl, Holds.rd H139_ 10 rfl, Holds.rd H139_ 11 rfl, (And.intro (Holds.rdf H139_ 6 rfl) (Holds.blk H139_ 6 rfl)), (Sub.trans' hz_R_R128_ (Holds.ro_at H139_ 0 rfl))⟩, ?_⟩
          refine A_done (by kernel_rfl) ?_
          refine (X_then (hK57_ _ _ ?_))
          refine C_reg ?_
          refine sv (v := (vQ b13_)) (by kernel_rfl) ?_
          refine S_list0 (T_store1 (v := (vB true)) rfl rfl z4 rfl H139_ 9 rfl (Nat.le_of_ble_eq_true (by rfl)) ?_)
          intro w143_ S145_ H144_
          have S146_ := Same.trans S142_ S145_
          refine wpList_nil (X_blkN (X_then (hK22_ _ _ ?_)))
          refine cr fun _ hK147_ => ?_
          refine sv (v := (vA #[(vB true), (vI .i64 0), (vS none 0 0), (vS none 0 0)])) (x_loadN (vs := [(vB true), (vI .i64 0), (vS none 0 0), (vS none 0 0)]) rfl underlying42 rfl z42 rfl (Rd.cells (Holds.rd H144_ 9 rfl) 0 rfl)) ?_
          refine S_list0 (T_storeN (vs := [(vB true), (vI .i64 0), (vS none 0 0), (vS none 0 0)]) rfl rfl z42 rfl (by simp [Value.oneCell']) H144_ 10 rfl (Nat.le_of_ble_eq_true (by rfl)) ?_)
          intro w148_ S150_ H149_
          have S151_ := Same.trans S146_ S150_
          refine wn (hK147_ _ _ ?_)
          refine C_ret ?_
          refine R_any (v := (vA #[(vB true), (vI .i64 0), (vS none 0 0), (vS none 0 0)])) (run_results1 rfl ⟨_, rfl, load_resN underlying42 rfl z42 rfl (vs := [(vB true), (vI .i64 0), (vS none 0 0), (vS none 0 0)]) (Holds.cl_cells H149_ 10 rfl 0 rfl)⟩) ?_
          have H152_ := Holds.pkF H149_ [0, 0, 0, 0, 0, 0, 0, 0, 0] 3
          exact ⟨R128_, _, _, rfl, hz_R_R128_, (.inr ⟨a130_, KM131_, S132_, W133_, cnt134_, rfl, rfl, (he30_), (he135_), (he136_)⟩), S151_, H152_⟩
        refine AllR.cons ?_ AllR.nil
        refine A_op (ls' := #[true, true, true, true, true, true, true, false, true, true, true, true, true, true, true, true, true, true, false]) rfl (by kernel_rfl) (T_callG (al := [(Value.string o.w_End), (vB o.w_HasEnd)]) (pre := []) rfl rfl cb43 (gEnd R o.w_End o.w_HasEnd (hz)) H58_ ?_)
        rintro R154_ v155_ p165_ w162_ hs153_ hq166_ S164_ H163_
        rcases hq166_ with ⟨rfl, rfl, he156_⟩ | ⟨ea157_, em158_, ec159_, rfl, rfl, he160_, he161_⟩
        ·skip
         have S167_ := Same.trans (Same.trans S51_ (Same.drew _)) S164_
         refine ⟨⟨Holds.rd H163_ 1 rfl, Holds.rd H163_ 4 rfl, Holds.rd H163_ 5 rfl, Holds.rd H163_ 6 rfl, (And.intro (Holds.rdf H163_ 11 rfl) (Holds.blk H163_ 11 rfl)), (Sub.trans' hs153_ (Holds.ro_at H163_ 0 rfl))⟩, ?_⟩
         refine A_ready (i := 7) (rs := []) (by kernel_rfl) ?_
         refine AllR.cons ?_ AllR.nil
         refine A_op (ls' := #[true, true, true, true, true, true, true, true, true, true, true, true, true, true, true, true, true, true, false]) rfl (by kernel_rfl) (T_s2b rfl underlying9 underlying101 underlying5 H163_ ?_)
         intro b169_ cp170_ w171_ S173_ hc174_ H172_
         have S175_ := Same.trans S167_ S173_
         have H176_ := Holds.resl H172_ 0 rfl (byteCells_bytesV _ : byteCells o.w_Key = bytesV (ints o.w_Key)) rfl
         have H177_ := Holds.resl H176_ 0 rfl (rfl : bytesV (ints o.w_Key) = bytesV (ints o.w_Key)) ((ints_length _).symm : o.w_Key.size = (List.length (ints o.w_Key)))
         refine ⟨⟨Holds.rd H177_ 2 rfl, Holds.rd H177_ 5 rfl, Holds.rd H177_ 6 rfl, Holds.rd H177_ 7 rfl, (And.intro (Holds.rdf H177_ 12 rfl) (Holds.blk H177_ 12 rfl)), (Sub.trans' hs153_ (Holds.ro_at H177_ 1 rfl))⟩, ?_⟩
         refine A_ready (i := 18) (rs := []) (by kernel_rfl) ?_
         refine AllR.cons ?_ AllR.nil
         have H178_ := ((Holds.bring H177_ 1 rfl) :)
         obtain ⟨R179_, hs180_, ⟨R181_, ha182_, hs183_⟩, H184_⟩ := Holds.gift H178_
         have hz_R_R179_ := Sub.trans' hs153_ hs180_
         have hr185_ : RS R179_ 1 (vS (some ⟨b169_, 0, none⟩) o.w_Key.size cp170_) (List.length (ints o.w_Key)) (bytesV (ints o.w_Key)) := (sl_RS ha182_ (Sub.rfl' _)).mono hs183_
         have H196_ := ((Holds.bring (Holds.bring (Holds.bring (Holds.bring (Holds.bring (Holds.bring (Holds.bring (Holds.bring (Holds.bring H184_ 3 rfl) 3 rfl) 11 rfl) 11 rfl) 11 rfl) 11 rfl) 11 rfl) 8 rfl) 8 rfl) :)
         refine A_op (ls' := #[true, true, true, true, true, true, true, true, true, true, true, true, true, true, true, true, true, true, true]) rfl (by kernel_rfl) (T_callG (al := [(vQ zb), (vI .i64 ((wOf o).iD)), (vS (some ⟨b169_, 0, none⟩) o.w_Key.size cp170_), (vS none 0 0), (vI .i64 ((wOf o).minRev))]) (pre := [cl zb 97 [(Value.map (some kb)), (Value.iface 183 (vQ tb)), (Value.map (some wb)), (Value.map (some ib))], mp Value.string kb KM, setsP (List.map Prod.fst PM) S, cl tb 185 [(vQ (rt sb W)), (vI .i64 cnt), (vQ sb)], tr sb sb W, clf sb 182 [(Value.nilIface), (Value.nilIface), (Value.nilIface), (Value.nilIface), (vP none), (vP none), (vP none), (vI .i64 0)], mp pn wb (aggm PM), mp (vI .i64) ib (idm PM)]) rfl (lcons rfl (lcons (congrArg (vI .i64) ((by first | rfl | omega | (simp; done) | (simp; omega)) : o.w_ID = (wOf o).iD)) (lcons rfl (lcons rfl (lcons (congrArg (vI .i64) ((by first | rfl | omega | (simp; done) | (simp; omega)) : o.w_MinRev = (wOf o).minRev)) rfl))))) cb42 (gzAdd R179_ zb kb tb sb wb ib cnt PM KM S W (some ⟨b169_, 0, none⟩) none o.w_Key.size cp170_ 0 0 (wOf o) (RS.set_ hr185_ (by first | rfl | (simp [GW.cells, GO.cells, GA.cells]; done)) (by first | rfl | omega | (simp; done) | (simp; omega))) ((.inl ⟨he156_, rfl⟩)) ((hG.mono hz_R_R179_)) (hcn) (hpl) (he30_) (hnd)) H196_ ?_)
         rintro R187_ v188_ p200_ w197_ hs186_ ⟨a189_, KM190_, S191_, W192_, cnt193_, rfl, rfl, he194_, he195_⟩ S199_ H198_
         have S201_ := Same.trans S175_ S199_
         have hz_R_R187_ := Sub.trans' hz_R_R179_ hs186_
         have hz_R154__R187_ := Sub.trans' hs180_ hs186_
         refine ⟨⟨Holds.rd H198_ 1 rfl, Holds.rd H198_ 9 rfl, Holds.rd H198_ 10 rfl, Holds.rd H198_ 11 rfl, (And.intro (Holds.rdf H198_ 6 rfl) (Holds.blk H198_ 6 rfl)), (Sub.trans' hz_R_R187_ (Holds.ro_at H198_ 0 rfl))⟩, ?_⟩
         refine A_done (by kernel_rfl) ?_
         refine (X_then (hK57_ _ _ ?_))
         refine C_reg ?_
         refine sv (v := (vQ b13_)) (by kernel_rfl) ?_
         refine S_list0 (T_store1 (v := (vB true)) rfl rfl z4 rfl H198_ 9 rfl (Nat.le_of_ble_eq_true (by rfl)) ?_)
         intro w202_ S204_ H203_
         have S205_ := Same.trans S201_ S204_
         refine wpList_nil (X_blkN (X_then (hK22_ _ _ ?_)))
         refine cr fun _ hK206_ => ?_
         refine sv (v := (vA #[(vB true), (vI .i64 0), (vS none 0 0), (vS none 0 0)])) (x_loadN (vs := [(vB true), (vI .i64 0), (vS none 0 0), (vS none 0 0)]) rfl underlying42 rfl z42 rfl (Rd.cells (Holds.rd H203_ 9 rfl) 0 rfl)) ?_
         refine S_list0 (T_storeN (vs := [(vB true), (vI .i64 0), (vS none 0 0), (vS none 0 0)]) rfl rfl z42 rfl (by simp [Value.oneCell']) H203_ 10 rfl (Nat.le_of_ble_eq_true (by rfl)) ?_)
         intro w207_ S209_ H208_
         have S210_ := Same.trans S205_ S209_
         refine wn (hK206_ _ _ ?_)
         refine C_ret ?_
         refine R_any (v := (vA #[(vB true), (vI .i64 0), (vS none 0 0), (vS none 0 0)])) (run_results1 rfl ⟨_, rfl, load_resN underlying42 rfl z42 rfl (vs := [(vB true), (vI .i64 0), (vS none 0 0), (vS none 0 0)]) (Holds.cl_cells H208_ 10 rfl 0 rfl)⟩) ?_
         have H211_ := Holds.pkF H208_ [0, 0, 0, 0, 0, 0, 0, 0, 0] 3
         exact ⟨R187_, _, _, rfl, hz_R_R187_, (.inr ⟨a189_, KM190_, S191_, W192_, cnt193_, rfl, rfl, (he30_), (he194_), (he195_)⟩), S210_, H211_⟩
        ·skip
         have S168_ := Same.trans (Same.trans S51_ (Same.drew _)) S164_
         refine ⟨⟨Holds.rd H163_ 1 rfl, Holds.rd H163_ 4 rfl, Holds.rd H163_ 5 rfl, Holds.rd H163_ 6 rfl, (And.intro (Holds.rdf H163_ 11 rfl) (Holds.blk H163_ 11 rfl)), (Sub.trans' hs153_ (Holds.ro_at H163_ 0 rfl))⟩, ?_⟩
         refine A_ready (i := 7) (rs := []) (by kernel_rfl) ?_
         refine AllR.cons ?_ AllR.nil
         refine A_op (ls' := #[true, true, true, true, true, true, true, true, true, true, true, true, true, true, true, true, true, true, false]) rfl (by kernel_rfl) (T_s2b rfl underlying9 underlying101 underlying5 H163_ ?_)
         intro b212_ cp213_ w214_ S216_ hc217_ H215_
         have S218_ := Same.trans S168_ S216_
         have H219_ := Holds.resl H215_ 0 rfl (byteCells_bytesV _ : byteCells o.w_Key = bytesV (ints o.w_Key)) rfl
         have H220_ := Holds.resl H219_ 0 rfl (rfl : bytesV (ints o.w_Key) = bytesV (ints o.w_Key)) ((ints_length _).symm : o.w_Key.size = (List.length (ints o.w_Key)))
         refine ⟨⟨Holds.rd H220_ 2 rfl, Holds.rd H220_ 5 rfl, Holds.rd H220_ 6 rfl, Holds.rd H220_ 7 rfl, (And.intro (Holds.rdf H220_ 12 rfl) (Holds.blk H220_ 12 rfl)), (Sub.trans' hs153_ (Holds.ro_at H220_ 1 rfl))⟩, ?_⟩
         refine A_ready (i := 18) (rs := []) (by kernel_rfl) ?_
         refine AllR.cons ?_ AllR.nil
         have H221_ := ((Holds.bring H220_ 1 rfl) :)
         obtain ⟨R222_, hs223_, ⟨R224_, ha225_, hs226_⟩, H227_⟩ := Holds.gift H221_
         have hz_R_R222_ := Sub.trans' hs153_ hs223_
         have hr228_ : RS R222_ 1 (vS (some ⟨b212_, 0, none⟩) o.w_Key.size cp213_) (List.length (ints o.w_Key)) (bytesV (ints o.w_Key)) := (sl_RS ha225_ (Sub.rfl' _)).mono hs226_
         have H239_ := ((Holds.bring (Holds.bring (Holds.bring (Holds.bring (Holds.bring (Holds.bring (Holds.bring (Holds.bring (Holds.bring H227_ 3 rfl) 3 rfl) 11 rfl) 11 rfl) 11 rfl) 11 rfl) 11 rfl) 8 rfl) 8 rfl) :)
         refine A_op (ls' := #[true, true, true, true, true, true, true, true, true, true, true, true, true, true, true, true, true, true, true]) rfl (by kernel_rfl) (T_callG (al := [(vQ zb), (vI .i64 ((wOf o).iD)), (vS (some ⟨b212_, 0, none⟩) o.w_Key.size cp213_), (vS (some ea157_) em158_ ec159_), (vI .i64 ((wOf o).minRev))]) (pre := [cl zb 97 [(Value.map (some kb)), (Value.iface 183 (vQ tb)), (Value.map (some wb)), (Value.map (some ib))], mp Value.string kb KM, setsP (List.map Prod.fst PM) S, cl tb 185 [(vQ (rt sb W)), (vI .i64 cnt), (vQ sb)], tr sb sb W, clf sb 182 [(Value.nilIface), (Value.nilIface), (Value.nilIface), (Value.nilIface), (vP none), (vP none), (vP none), (vI .i64 0)], mp pn wb (aggm PM), mp (vI .i64) ib (idm PM)]) rfl (lcons rfl (lcons (congrArg (vI .i64) ((by first | rfl | omega | (simp; done) | (simp; omega)) : o.w_ID = (wOf o).iD)) (lcons rfl (lcons rfl (lcons (congrArg (vI .i64) ((by first | rfl | omega | (simp; done) | (simp; omega)) : o.w_MinRev = (wOf o).minRev)) rfl))))) cb42 (gzAdd R222_ zb kb tb sb wb ib cnt PM KM S W (some ⟨b212_, 0, none⟩) (some ea157_) o.w_Key.size cp213_ em158_ ec159_ (wOf o) (RS.set_ hr228_ (by first | rfl | (simp [GW.cells, GO.cells, GA.cells]; done)) (by first | rfl | omega | (simp; done) | (simp; omega))) ((.inr ⟨he160_, _, _, _, rfl, (he161_.mono hs223_)⟩)) ((hG.mono hz_R_R222_)) (hcn) (hpl) (he30_) (hnd)) H239_ ?_)
         rintro R230_ v231_ p243_ w240_ hs229_ ⟨a232_, KM233_, S234_, W235_, cnt236_, rfl, rfl, he237_, he238_⟩ S242_ H241_
         have S244_ := Same.trans S218_ S242_
         have hz_R_R230_ := Sub.trans' hz_R_R222_ hs229_
         have hz_R154__R230_ := Sub.trans' hs223_ hs229_
         refine ⟨⟨Holds.rd H241_ 1 rfl, Holds.rd H241_ 9 rfl, Holds.rd H241_ 10 rfl, Holds.rd H241_ 11 rfl, (And.intro (Holds.rdf H241_ 6 rfl) (Holds.blk H241_ 6 rfl)), (Sub.trans' hz_R_R230_ (Holds.ro_at H241_ 0 rfl))⟩, ?_⟩
         refine A_done (by kernel_rfl) ?_
         refine (X_then (hK57_ _ _ ?_))
         refine C_reg ?_
         refine sv (v := (vQ b13_)) (by kernel_rfl) ?_
         refine S_list0 (T_store1 (v := (vB true)) rfl rfl z4 rfl H241_ 9 rfl (Nat.le_of_ble_eq_true (by rfl)) ?_)
         intro w245_ S247_ H246_
         have S248_ := Same.trans S244_ S247_
         refine wpList_nil (X_blkN (X_then (hK22_ _ _ ?_)))
         refine cr fun _ hK249_ => ?_
         refine sv (v := (vA #[(vB true), (vI .i64 0), (vS none 0 0), (vS none 0 0)])) (x_loadN (vs := [(vB true), (vI .i64 0), (vS none 0 0), (vS none 0 0)]) rfl underlying42 rfl z42 rfl (Rd.cells (Holds.rd H246_ 9 rfl) 0 rfl)) ?_
         refine S_list0 (T_storeN (vs := [(vB true), (vI .i64 0), (vS none 0 0), (vS none 0 0)]) rfl rfl z42 rfl (by simp [Value.oneCell']) H246_ 10 rfl (Nat.le_of_ble_eq_true (by rfl)) ?_)
         intro w250_ S252_ H251_
         have S253_ := Same.trans S248_ S252_
         refine wn (hK249_ _ _ ?_)
         refine C_ret ?_
         refine R_any (v := (vA #[(vB true), (vI .i64 0), (vS none 0 0), (vS none 0 0)])) (run_results1 rfl ⟨_, rfl, load_resN underlying42 rfl z42 rfl (vs := [(vB true), (vI .i64 0), (vS none 0 0), (vS none 0 0)]) (Holds.cl_cells H251_ 10 rfl 0 rfl)⟩) ?_
         have H254_ := Holds.pkF H251_ [0, 0, 0, 0, 0, 0, 0, 0, 0] 3
         exact ⟨R230_, _, _, rfl, hz_R_R230_, (.inr ⟨a232_, KM233_, S234_, W235_, cnt236_, rfl, rfl, (he30_), (he237_), (he238_)⟩), S253_, H254_⟩
      ·skip
       refine S_no (j := 24) (dj := 37) (b := false) rfl rfl (congrArg vB c55_f) (by decide) ?_
       refine S_no (j := 24) (dj := 37) (b := false) rfl rfl (congrArg vB c55_f) (by decide) ?_
       refine S_no (j := 24) (dj := 37) (b := false) rfl rfl (congrArg vB c55_f) (by decide) ?_
       refine S_no (j := 24) (dj := 37) (b := false) rfl rfl (congrArg vB c55_f) (by decide) ?_
       refine S_no (j := 24) (dj := 37) (b := false) rfl rfl (congrArg vB c55_f) (by decide) ?_
       refine S_no (j := 24) (dj := 37) (b := false) rfl rfl (congrArg vB c55_f) (by decide) ?_
       refine S_no (j := 24) (dj := 37) (b := false) rfl rfl (congrArg vB c55_f) (by decide) ?_
       refine S_yes (j := 19) (dj := 32) (b := false) rfl rfl (congrArg vB c54_f) (T_pickF (v := (vB false)) (congrArg vB c55_f) rfl ?_)
       refine S_yes (j := 14) (dj := 27) (b := true) rfl rfl (congrArg vB c53_t) (T_pickF (v := (vB false)) (congrArg vB c54_f) rfl ?_)
       refine S_yes (j := 10) (dj := 23) (b := false) rfl rfl (congrArg vB c52_f) (T_pickT (v := (vB false)) (congrArg vB c53_t) rfl ?_)
       refine S_list (T_pickF (v := (vB false)) (congrArg vB c52_f) rfl ?_)
       refine wn (hK27_ _ _ ?_)
       refine C_condF rfl ?_
       refine C_skip (X_then (hK26_ _ _ ?_))
       refine C_seq (fun _ hK255_ => ?_)
       refine A_start (S := fun w => Rd zb [(Value.map (some kb)), (Value.iface 183 (vQ tb)), (Value.map (some wb)), (Value.map (some ib))] w ∧ Rd b13_ [(vB false), (vI .i64 0), (vS none 0 0), (vS none 0 0)] w ∧ Rd b7_ [(vB false), (vI .i64 0), (vS none 0 0), (vS none 0 0)] w ∧ Rd b2_ [(vI .i64 o.kind), (vI .i64 o.w_ID), (Value.string o.w_Key), (Value.string o.w_End), (vB o.w_HasEnd), (vI .i64 o.w_MinRev), (Value.string o.key), (vI .i64 o.cur), (vI .i64 o.compact), o.events] w ∧ (Rd sb [(Value.nilIface), (Value.nilIface), (Value.nilIface), (Value.nilIface), (vP none), (vP none), (vP none), (vI .i64 0)] w ∧ Blk w sb) ∧ Sub R (hp w)) (N := 19) foll rfl rfl ?_
       have H256_ := Holds.drew_ H48_
       have hq258_ := And.intro (Holds.rd H256_ 1 rfl) (And.intro (Holds.rd H256_ 4 rfl) (And.intro (Holds.rd H256_ 5 rfl) (And.intro (Holds.rd H256_ 6 rfl) (And.intro ((And.intro (Holds.rdf H256_ 11 rfl) (Holds.blk H256_ 11 rfl))) ((Holds.ro_at H256_ 0 rfl))))))
       refine A_tk 0 (v := (vQ zb)) rfl (by kernel_rfl) (fun w hS => x_move rfl) hq258_ ?_
       refine A_tk 1 (v := (vP (some ⟨b2_, 1, none⟩))) rfl (by kernel_rfl) (fun w hS => by kernel_rfl) hq258_ ?_
       refine A_tk 2 (v := (vP (some ⟨b2_, 1, none⟩))) rfl (by kernel_rfl) (fun w hS => by kernel_rfl) hq258_ ?_
       refine A_tk 3 (v := (vI .i64 o.w_ID)) rfl (by kernel_rfl) (fun w hS => x_load1 rfl underlying2 rfl (hS.2.2.2.1 1 (vI .i64 o.w_ID) rfl)) hq258_ ?_
       refine A_tk 4 (v := (vP (some ⟨b2_, 1, none⟩))) rfl (by kernel_rfl) (fun w hS => by kernel_rfl) hq258_ ?_
       refine A_tk 5 (v := (vP (some ⟨b2_, 2, none⟩))) rfl (by kernel_rfl) (fun w hS => by kernel_rfl) hq258_ ?_
       refine A_tk 6 (v := (Value.string o.w_Key)) rfl (by kernel_rfl) (fun w hS => x_load1 rfl underlying9 rfl (hS.2.2.2.1 2 (Value.string o.w_Key) rfl)) hq258_ ?_
       refine A_tk 8 (v := (vP (some ⟨b2_, 1, none⟩))) rfl (by kernel_rfl) (fun w hS => by kernel_rfl) hq258_ ?_
       refine A_tk 9 (v := (vP (some ⟨b2_, 3, none⟩))) rfl (by kernel_rfl) (fun w hS => by kernel_rfl) hq258_ ?_
       refine A_tk 10 (v := (Value.string o.w_End)) rfl (by kernel_rfl) (fun w hS => x_load1 rfl underlying9 rfl (hS.2.2.2.1 3 (Value.string o.w_End) rfl)) hq258_ ?_
       refine A_tk 11 (v := (vP (some ⟨b2_, 1, none⟩))) rfl (by kernel_rfl) (fun w hS => by kernel_rfl) hq258_ ?_
       refine A_tk 12 (v := (vP (some ⟨b2_, 4, none⟩))) rfl (by kernel_rfl) (fun w hS => by kernel_rfl) hq258_ ?_
       refine A_tk 13 (v := (vB o.w_HasEnd)) rfl (by kernel_rfl) (fun w hS => x_load1 rfl underlying4 rfl (hS.2.2.2.1 4 (vB o.w_HasEnd) rfl)) hq258_ ?_
       refine A_tk 15 (v := (vP (some ⟨b2_, 1, none⟩))) rfl (by kernel_rfl) (fun w hS => by kernel_rfl) hq258_ ?_
       refine A_tk 16 (v := (vP (some ⟨b2_, 5, none⟩))) rfl (by kernel_rfl) (fun w hS => by kernel_rfl) hq258_ ?_
       refine A_tk 17 (v := (vI .i64 o.w_MinRev)) rfl (by kernel_rfl) (fun w hS => x_load1 rfl underlying2 rfl (hS.2.2.2.1 5 (vI .i64 o.w_MinRev) rfl)) hq258_ ?_
       refine A_ready (i := 7) (rs := [14]) (by kernel_rfl) ?_
       refine AllR.cons ?_ ?_
       ·skip
        refine A_op (ls' := #[true, true, true, true, true, true, true, true, true, true, true, true, true, true, false, true, true, true, false]) rfl (by kernel_rfl) (T_s2b rfl underlying9 underlying101 underlying5 H256_ ?_)
        intro b259_ cp260_ w261_ S263_ hc264_ H262_
        have S265_ := Same.trans (Same.trans S51_ (Same.drew _)) S263_
        have H266_ := Holds.resl H262_ 0 rfl (byteCells_bytesV _ : byteCells o.w_Key = bytesV (ints o.w_Key)) rfl
        have H267_ := Holds.resl H266_ 0 rfl (rfl : bytesV (ints o.w_Key) = bytesV (ints o.w_Key)) ((ints_length _).symm : o.w_Key.size = (List.length (ints o.w_Key)))
        refine ⟨⟨Holds.rd H267_ 2 rfl, Holds.rd H267_ 5 rfl, Holds.rd H267_ 6 rfl, Holds.rd H267_ 7 rfl, (And.intro (Holds.rdf H267_ 12 rfl) (Holds.blk H267_ 12 rfl)), (Holds.ro_at H267_ 1 rfl)⟩, ?_⟩
        refine A_ready (i := 14) (rs := []) (by kernel_rfl) ?_
        refine AllR.cons ?_ AllR.nil
        have H277_ := ((Holds.bring H267_ 1 rfl) :)
        refine A_op (ls' := #[true, true, true, true, true, true, true, true, true, true, true, true, true, true, true, true, true, true, false]) rfl (by kernel_rfl) (T_callG (al := [(Value.string o.w_End), (vB o.w_HasEnd)]) (pre := []) rfl rfl cb43 (gEnd R o.w_End o.w_HasEnd (hz)) H277_ ?_)
        rintro R269_ v270_ p281_ w278_ hs268_ hq282_ S280_ H279_
        rcases hq282_ with ⟨rfl, rfl, he271_⟩ | ⟨ea272_, em273_, ec274_, rfl, rfl, he275_, he276_⟩
        ·skip
         have S283_ := Same.trans S265_ S280_
         refine ⟨⟨Holds.rd H279_ 2 rfl, Holds.rd H279_ 5 rfl, Holds.rd H279_ 6 rfl, Holds.rd H279_ 7 rfl, (And.intro (Holds.rdf H279_ 12 rfl) (Holds.blk H279_ 12 rfl)), (Sub.trans' hs268_ (Holds.ro_at H279_ 0 rfl))⟩, ?_⟩
         refine A_ready (i := 18) (rs := []) (by kernel_rfl) ?_
         refine AllR.cons ?_ AllR.nil
         obtain ⟨R285_, hs286_, ⟨R287_, ha288_, hs289_⟩, H290_⟩ := Holds.gift H279_
         have hz_R_R285_ := Sub.trans' hs268_ hs286_
         have hr291_ : RS R285_ 1 (vS (some ⟨b259_, 0, none⟩) o.w_Key.size cp260_) (List.length (ints o.w_Key)) (bytesV (ints o.w_Key)) := (sl_RS ha288_ (Sub.rfl' _)).mono hs289_
         have H302_ := ((Holds.bring (Holds.bring (Holds.bring (Holds.bring (Holds.bring (Holds.bring (Holds.bring (Holds.bring (Holds.bring H290_ 3 rfl) 3 rfl) 11 rfl) 11 rfl) 11 rfl) 11 rfl) 11 rfl) 8 rfl) 8 rfl) :)
         refine A_op (ls' := #[true, true, true, true, true, true, true, true, true, true, true, true, true, true, true, true, true, true, true]) rfl (by kernel_rfl) (T_callG (al := [(vQ zb), (vI .i64 ((wOf o).iD)), (vS (some ⟨b259_, 0, none⟩) o.w_Key.size cp260_), (vS none 0 0), (vI .i64 ((wOf o).minRev))]) (pre := [cl zb 97 [(Value.map (some kb)), (Value.iface 183 (vQ tb)), (Value.map (some wb)), (Value.map (some ib))], mp Value.string kb KM, setsP (List.map Prod.fst PM) S, cl tb 185 [(vQ (rt sb W)), (vI .i64 cnt), (vQ sb)], tr sb sb W, clf sb 182 [(Value.nilIface), (Value.nilIface), (Value.nilIface), (Value.nilIface), (vP none), (vP none), (vP none), (vI .i64 0)], mp pn wb (aggm PM), mp (vI .i64) ib (idm PM)]) rfl (lcons rfl (lcons (congrArg (vI .i64) ((by first | rfl | omega | (simp; done) | (simp; omega)) : o.w_ID = (wOf o).iD)) (lcons rfl (lcons rfl (lcons (congrArg (vI .i64) ((by first | rfl | omega | (simp; done) | (simp; omega)) : o.w_MinRev = (wOf o).minRev)) rfl))))) cb42 (gzAdd R285_ zb kb tb sb wb ib cnt PM KM S W (some ⟨b259_, 0, none⟩) none o.w_Key.size cp260_ 0 0 (wOf o) (RS.set_ hr291_ (by first | rfl | (simp [GW.cells, GO.cells, GA.cells]; done)) (by first | rfl | omega | (simp; done) | (simp; omega))) ((.inl ⟨he271_, rfl⟩)) ((hG.mono hz_R_R285_)) (hcn) (hpl) (he30_) (hnd)) H302_ ?_)
         rintro R293_ v294_ p306_ w303_ hs292_ ⟨a295_, KM296_, S297_, W298_, cnt299_, rfl, rfl, he300_, he301_⟩ S305_ H304_
         have S307_ := Same.trans S283_ S305_
         have hz_R_R293_ := Sub.trans' hz_R_R285_ hs292_
         have hz_R269__R293_ := Sub.trans' hs286_ hs292_
         refine ⟨⟨Holds.rd H304_ 1 rfl, Holds.rd H304_ 9 rfl, Holds.rd H304_ 10 rfl, Holds.rd H304_ 11 rfl, (And.intro (Holds.rdf H304_ 6 rfl) (Holds.blk H304_ 6 rfl)), (Sub.trans' hz_R_R293_ (Holds.ro_at H304_ 0 rfl))⟩, ?_⟩
         refine A_done (by kernel_rfl) ?_
         refine (X_then (hK255_ _ _ ?_))
         refine C_reg ?_
         refine sv (v := (vQ b13_)) (by kernel_rfl) ?_
         refine S_list0 (T_store1 (v := (vB true)) rfl rfl z4 rfl H304_ 9 rfl (Nat.le_of_ble_eq_true (by rfl)) ?_)
         intro w308_ S310_ H309_
         have S311_ := Same.trans S307_ S310_
         refine wpList_nil (X_blkN (X_then (hK22_ _ _ ?_)))
         refine cr fun _ hK312_ => ?_
         refine sv (v := (vA #[(vB true), (vI .i64 0), (vS none 0 0), (vS none 0 0)])) (x_loadN (vs := [(vB true), (vI .i64 0), (vS none 0 0), (vS none 0 0)]) rfl underlying42 rfl z42 rfl (Rd.cells (Holds.rd H309_ 9 rfl) 0 rfl)) ?_
         refine S_list0 (T_storeN (vs := [(vB true), (vI .i64 0), (vS none 0 0), (vS none 0 0)]) rfl rfl z42 rfl (by simp [Value.oneCell']) H309_ 10 rfl (Nat.le_of_ble_eq_true (by rfl)) ?_)
         intro w313_ S315_ H314_
         have S316_ := Same.trans S311_ S315_
         refine wn (hK312_ _ _ ?_)
         refine C_ret ?_
         refine R_any (v := (vA #[(vB true), (vI .i64 0), (vS none 0 0), (vS none 0 0)])) (run_results1 rfl ⟨_, rfl, load_resN underlying42 rfl z42 rfl (vs := [(vB true), (vI .i64 0), (vS none 0 0), (vS none 0 0)]) (Holds.cl_cells H314_ 10 rfl 0 rfl)⟩) ?_
         have H317_ := Holds.pkF H314_ [0, 0, 0, 0, 0, 0, 0, 0, 0] 3
         exact ⟨R293_, _, _, rfl, hz_R_R293_, (.inr ⟨a295_, KM296_, S297_, W298_, cnt299_, rfl, rfl, (he30_), (he300_), (he301_)⟩), S316_, H317_⟩
        ·skip
         have S284_ := Same.trans S265_ S280_
         refine ⟨⟨Holds.rd H279_ 2 rfl, Holds.rd H279_ 5 rfl, Holds.rd H279_ 6 rfl, Holds.rd H279_ 7 rfl, (And.intro (Holds.rdf H279_ 12 rfl) (Holds.blk H279_ 12 rfl)), (Sub.trans' hs268_ (Holds.ro_at H279_ 0 rfl))⟩, ?_⟩
         refine A_ready (i := 18) (rs := []) (by kernel_rfl) ?_
         refine AllR.cons ?_ AllR.nil
         obtain ⟨R318_, hs319_, ⟨R320_, ha321_, hs322_⟩, H323_⟩ := Holds.gift H279_
         have hz_R_R318_ := Sub.trans' hs268_ hs319_
         have hr324_ : RS R318_ 1 (vS (some ⟨b259_, 0, none⟩) o.w_Key.size cp260_) (List.length (ints o.w_Key)) (bytesV (ints o.w_Key)) := (sl_RS ha321_ (Sub.rfl' _)).mono hs322_
         have H335_ := ((Holds.bring (Holds.bring (Holds.bring (Holds.bring (Holds.bring (Holds.bring (Holds.bring (Holds.bring (Holds.bring H323_ 3 rfl) 3 rfl) 11 rfl) 11 rfl) 11 rfl) 11 rfl) 11 rfl) 8 rfl) 8 rfl) :)
         refine A_op (ls' := #[true, true, true, true, true, true, true, true, true, true, true, true, true, true, true, true, true, true, true]) rfl (by kernel_rfl) (T_callG (al := [(vQ zb), (vI .i64 ((wOf o).iD)), (vS (some ⟨b259_, 0, none⟩) o.w_Key.size cp260_), (vS (some ea272_) em273_ ec274_), (vI .i64 ((wOf o).minRev))]) (pre := [cl zb 97 [(Value.map (some kb)), (Value.iface 183 (vQ tb)), (Value.map (some wb)), (Value.map (some ib))], mp Value.string kb KM, setsP (List.map Prod.fst PM) S, cl tb 185 [(vQ (rt sb W)), (vI .i64 cnt), (vQ sb)], tr sb sb W, clf sb 182 [(Value.nilIface), (Value.nilIface), (Value.nilIface), (Value.nilIface), (vP none), (vP none), (vP none), (vI .i64 0)], mp pn wb (aggm PM), mp (vI .i64) ib (idm PM)]) rfl (lcons rfl (lcons (congrArg (vI .i64) ((by first | rfl | omega | (simp; done) | (simp; omega)) : o.w_ID = (wOf o).iD)) (lcons rfl (lcons rfl (lcons (congrArg (vI .i64) ((by first | rfl | omega | (simp; done) | (simp; omega)) : o.w_MinRev = (wOf o).minRev)) rfl))))) cb42 (gzAdd R318_ zb kb tb sb wb ib cnt PM KM S W (some ⟨b259_, 0, none⟩) (some ea272_) o.w_Key.size cp260_ em273_ ec274_ (wOf o) (RS.set_ hr324_ (by first | rfl | (simp [GW.cells, GO.cells, GA.cells]; done)) (by first | rfl | omega | (simp; done) | (simp; omega))) ((.inr ⟨he275_, _, _, _, rfl, (he276_.mono hs319_)⟩)) ((hG.mono hz_R_R318_)) (hcn) (hpl) (he30_) (hnd)) H335_ ?_)
         rintro R326_ v327_ p339_ w336_ hs325_ ⟨a328_, KM329_, S330_, W331_, cnt332_, rfl, rfl, he333_, he334_⟩ S338_ H337_
         have S340_ := Same.trans S284_ S338_
         have hz_R_R326_ := Sub.trans' hz_R_R318_ hs325_
         have hz_R269__R326_ := Sub.trans' hs319_ hs325_
         refine ⟨⟨Holds.rd H337_ 1 rfl, Holds.rd H337_ 9 rfl, Holds.rd H337_ 10 rfl, Holds.rd H337_ 11 rfl, (And.intro (Holds.rdf H337_ 6 rfl) (Holds.blk H337_ 6 rfl)), (Sub.trans' hz_R_R326_ (Holds.ro_at H337_ 0 rfl))⟩, ?_⟩
         refine A_done (by kernel_rfl) ?_
         refine (X_then (hK255_ _ _ ?_))
         refine C_reg ?_
         refine sv (v := (vQ b13_)) (by kernel_rfl) ?_
         refine S_list0 (T_store1 (v := (vB true)) rfl rfl z4 rfl H337_ 9 rfl (Nat.le_of_ble_eq_true (by rfl)) ?_)
         intro w341_ S343_ H342_
         have S344_ := Same.trans S340_ S343_
         refine wpList_nil (X_blkN (X_then (hK22_ _ _ ?_)))
         refine cr fun _ hK345_ => ?_
         refine sv (v := (vA #[(vB true), (vI .i64 0), (vS none 0 0), (vS none 0 0)])) (x_loadN (vs := [(vB true), (vI .i64 0), (vS none 0 0), (vS none 0 0)]) rfl underlying42 rfl z42 rfl (Rd.cells (Holds.rd H342_ 9 rfl) 0 rfl)) ?_
         refine S_list0 (T_storeN (vs := [(vB true), (vI .i64 0), (vS none 0 0), (vS none 0 0)]) rfl rfl z42 rfl (by simp [Value.oneCell']) H342_ 10 rfl (Nat.le_of_ble_eq_true (by rfl)) ?_)
         intro w346_ S348_ H347_
         have S349_ := Same.trans S344_ S348_
         refine wn (hK345_ _ _ ?_)
         refine C_ret ?_
         refine R_any (v := (vA #[(vB true), (vI .i64 0), (vS none 0 0), (vS none 0 0)])) (run_results1 rfl ⟨_, rfl, load_resN underlying42 rfl z42 rfl (vs := [(vB true), (vI .i64 0), (vS none 0 0), (vS none 0 0)]) (Holds.cl_cells H347_ 10 rfl 0 rfl)⟩) ?_
         have H350_ := Holds.pkF H347_ [0, 0, 0, 0, 0, 0, 0, 0, 0] 3
         exact ⟨R326_, _, _, rfl, hz_R_R326_, (.inr ⟨a328_, KM329_, S330_, W331_, cnt332_, rfl, rfl, (he30_), (he333_), (he334_)⟩), S349_, H350_⟩
       refine AllR.cons ?_ AllR.nil
       refine A_op (ls' := #[true, true, true, true, true, true, true, false, true, true, true, true, true, true, true, true, true, true, false]) rfl (by kernel_rfl) (T_callG (al := [(Value.string o.w_End), (vB o.w_HasEnd)]) (pre := []) rfl rfl cb43 (gEnd R o.w_End o.w_HasEnd (hz)) H256_ ?_)
       rintro R352_ v353_ p363_ w360_ hs351_ hq364_ S362_ H361_
       rcases hq364_ with ⟨rfl, rfl, he354_⟩ | ⟨ea355_, em356_, ec357_, rfl, rfl, he358_, he359_⟩
       ·skip
        have S365_ := Same.trans (Same.trans S51_ (Same.drew _)) S362_
        refine ⟨⟨Holds.rd H361_ 1 rfl, Holds.rd H361_ 4 rfl, Holds.rd H361_ 5 rfl, Holds.rd H361_ 6 rfl, (And.intro (Holds.rdf H361_ 11 rfl) (Holds.blk H361_ 11 rfl)), (Sub.trans' hs351_ (Holds.ro_at H361_ 0 rfl))⟩, ?_⟩
        refine A_ready (i := 7) (rs := []) (by kernel_rfl) ?_
        refine AllR.cons ?_ AllR.nil
        refine A_op (ls' := #[true, true, true, true, true, true, true, true, true, true, true, true, true, true, true, true, true, true, false]) rfl (by kernel_rfl) (T_s2b rfl underlying9 underlying101 underlying5 H361_ ?_)
        intro b367_ cp368_ w369_ S371_ hc372_ H370_
        have S373_ := Same.trans S365_ S371_
        have H374_ := Holds.resl H370_ 0 rfl (byteCells_bytesV _ : byteCells o.w_Key = bytesV (ints o.w_Key)) rfl
        have H375_ := Holds.resl H374_ 0 rfl (rfl : bytesV (ints o.w_Key) = bytesV (ints o.w_Key)) ((ints_length _).symm : o.w_Key.size = (List.length (ints o.w_Key)))
        refine ⟨⟨Holds.rd H375_ 2 rfl, Holds.rd H375_ 5 rfl, Holds.rd H375_ 6 rfl, Holds.rd H375_ 7 rfl, (And.intro (Holds.rdf H375_ 12 rfl) (Holds.blk H375_ 12 rfl)), (Sub.trans' hs351_ (Holds.ro_at H375_ 1 rfl))⟩, ?_⟩
        refine A_ready (i := 18) (rs := []) (by kernel_rfl) ?_
        refine AllR.cons ?_ AllR.nil
        have H376_ := ((Holds.bring H375_ 1 rfl) :)
        obtain ⟨R377_, hs378_, ⟨R379_, ha380_, hs381_⟩, H382_⟩ := Holds.gift H376_
        have hz_R_R377_ := Sub.trans' hs351_ hs378_
        have hr383_ : RS R377_ 1 (vS (some ⟨b367_, 0, none⟩) o.w_Key.size cp368_) (List.length (ints o.w_Key)) (bytesV (ints o.w_Key)) := (sl_RS ha380_ (Sub.rfl' _)).mono hs381_
        have H394_ := ((Holds.bring (Holds.bring (Holds.bring (Holds.bring (Holds.bring (Holds.bring (Holds.bring (Holds.bring (Holds.bring H382_ 3 rfl) 3 rfl) 11 rfl) 11 rfl) 11 rfl) 11 rfl) 11 rfl) 8 rfl) 8 rfl) :)
        refine A_op (ls' := #[true, true, true, true, true, true, true, true, true, true, true, true, true, true, true, true, true, true, true]) rfl (by kernel_rfl) (T_callG (al := [(vQ zb), (vI .i64 ((wOf o).iD)), (vS (some ⟨b367_, 0, none⟩) o.w_Key.size cp368_), (vS none 0 0), (vI .i64 ((wOf o).minRev))]) (pre := [cl zb 97 [(Value.map (some kb)), (Value.iface 183 (vQ tb)), (Value.map (some wb)), (Value.map (some ib))], mp Value.string kb KM, setsP (List.map Prod.fst PM) S, cl tb 185 [(vQ (rt sb W)), (vI .i64 cnt), (vQ sb)], tr sb sb W, clf sb 182 [(Value.nilIface), (Value.nilIface), (Value.nilIface), (Value.nilIface), (vP none), (vP none), (vP none), (vI .i64 0)], mp pn wb (aggm PM), mp (vI .i64) ib (idm PM)]) rfl (lcons rfl (lcons (congrArg (vI .i64) ((by first | rfl | omega | (simp; done) | (simp; omega)) : o.w_ID = (wOf o).iD)) (lcons rfl (lcons rfl (lcons (congrArg (vI .i64) ((by first | rfl | omega | (simp; done) | (simp; omega)) : o.w_MinRev = (wOf o).minRev)) rfl))))) cb42 (gzAdd R377_ zb kb tb sb wb ib cnt PM KM S W (some ⟨b367_, 0, none⟩) none o.w_Key.size cp368_ 0 0 (wOf o) (RS.set_ hr383_ (by first | rfl | (simp [GW.cells, GO.cells, GA.cells]; done)) (by first | rfl | omega | (simp; done) | (simp; omega))) ((.inl ⟨he354_, rfl⟩)) ((hG.mono hz_R_R377_)) (hcn) (hpl) (he30_) (hnd)) H394_ ?_)
        rintro R385_ v386_ p398_ w395_ hs384_ ⟨a387_, KM388_, S389_, W390_, cnt391_, rfl, rfl, he392_, he393_⟩ S397_ H396_
        have S399_ := Same.trans S373_ S397_
        have hz_R_R385_ := Sub.trans' hz_R_R377_ hs384_
        have hz_R352__R385_ := Sub.trans' hs378_ hs384_
        refine ⟨⟨Holds.rd H396_ 1 rfl, Holds.rd H396_ 9 rfl, Holds.rd H396_ 10 rfl, Holds.rd H396_ 11 rfl, (And.intro (Holds.rdf H396_ 6 rfl) (Holds.blk H396_ 6 rfl)), (Sub.trans' hz_R_R385_ (Holds.ro_at H396_ 0 rfl))⟩, ?_⟩
        refine A_done (by kernel_rfl) ?_
        refine (X_then (hK255_ _ _ ?_))
        refine C_reg ?_
        refine sv (v := (vQ b13_)) (by kernel_rfl) ?_
        refine S_list0 (T_store1 (v := (vB true)) rfl rfl z4 rfl H396_ 9 rfl (Nat.le_of_ble_eq_true (by rfl)) ?_)
        intro w400_ S402_ H401_
        have S403_ := Same.trans S399_ S402_
        refine wpList_nil (X_blkN (X_then (hK22_ _ _ ?_)))
        refine cr fun _ hK404_ => ?_
        refine sv (v := (vA #[(vB true), (vI .i64 0), (vS none 0 0), (vS none 0 0)])) (x_loadN (vs := [(vB true), (vI .i64 0), (vS none 0 0), (vS none 0 0)]) rfl underlying42 rfl z42 rfl (Rd.cells (Holds.rd H401_ 9 rfl) 0 rfl)) ?_
        refine S_list0 (T_storeN (vs := [(vB true), (vI .i64 0), (vS none 0 0), (vS none 0 0)]) rfl rfl z42 rfl (by simp [Value.oneCell']) H401_ 10 rfl (Nat.le_of_ble_eq_true (by rfl)) ?_)
        intro w405_ S407_ H406_
        have S408_ := Same.trans S403_ S407_
        refine wn (hK404_ _ _ ?_)
        refine C_ret ?_
        refine R_any (v := (vA #[(vB true), (vI .i64 0), (vS none 0 0), (vS none 0 0)])) (run_results1 rfl ⟨_, rfl, load_resN underlying42 rfl z42 rfl (vs := [(vB true), (vI .i64 0), (vS none 0 0), (vS none 0 0)]) (Holds.cl_cells H406_ 10 rfl 0 rfl)⟩) ?_
        have H409_ := Holds.pkF H406_ [0, 0, 0, 0, 0, 0, 0, 0, 0] 3
        exact ⟨R385_, _, _, rfl, hz_R_R385_, (.inr ⟨a387_, KM388_, S389_, W390_, cnt391_, rfl, rfl, (he30_), (he392_), (he393_)⟩), S408_, H409_⟩
       ·skip
        have S366_ := Same.trans (Same.trans S51_ (Same.drew _)) S362_
        refine ⟨⟨Holds.rd H361_ 1 rfl, Holds.rd H361_ 4 rfl, Holds.rd H361_ 5 rfl, Holds.rd H361_ 6 rfl, (And.intro (Holds.rdf H361_ 11 rfl) (Holds.blk H361_ 11 rfl)), (Sub.trans' hs351_ (Holds.ro_at H361_ 0 rfl))⟩, ?_⟩
        refine A_ready (i := 7) (rs := []) (by kernel_rfl) ?_
        refine AllR.cons ?_ AllR.nil
        refine A_op (ls' := #[true, true, true, true, true, true, true, true, true, true, true, true, true, true, true, true, true, true, false]) rfl (by kernel_rfl) (T_s2b rfl underlying9 underlying101 underlying5 H361_ ?_)
        intro b410_ cp411_ w412_ S414_ hc415_ H413_
        have S416_ := Same.trans S366_ S414_
        have H417_ := Holds.resl H413_ 0 rfl (byteCells_bytesV _ : byteCells o.w_Key = bytesV (ints o.w_Key)) rfl
        have H418_ := Holds.resl H417_ 0 rfl (rfl : bytesV (ints o.w_Key) = bytesV (ints o.w_Key)) ((ints_length _).symm : o.w_Key.size = (List.length (ints o.w_Key)))
        refine ⟨⟨Holds.rd H418_ 2 rfl, Holds.rd H418_ 5 rfl, Holds.rd H418_ 6 rfl, Holds.rd H418_ 7 rfl, (And.intro (Holds.rdf H418_ 12 rfl) (Holds.blk H418_ 12 rfl)), (Sub.trans' hs351_ (Holds.ro_at H418_ 1 rfl))⟩, ?_⟩
        refine A_ready (i := 18) (rs := []) (by kernel_rfl) ?_
        refine AllR.cons ?_ AllR.nil
        have H419_ := ((Holds.bring H418_ 1 rfl) :)
        obtain ⟨R420_, hs421_, ⟨R422_, ha423_, hs424_⟩, H425_⟩ := Holds.gift H419_
        have hz_R_R420_ := Sub.trans' hs351_ hs421_
        have hr426_ : RS R420_ 1 (vS (some ⟨b410_, 0, none⟩) o.w_Key.size cp411_) (List.length (ints o.w_Key)) (bytesV (ints o.w_Key)) := (sl_RS ha423_ (Sub.rfl' _)).mono hs424_
        have H437_ := ((Holds.bring (Holds.bring (Holds.bring (Holds.bring (Holds.bring (Holds.bring (Holds.bring (Holds.bring (Holds.bring H425_ 3 rfl) 3 rfl) 11 rfl) 11 rfl) 11 rfl) 11 rfl) 11 rfl) 8 rfl) 8 rfl) :)
        refine A_op (ls' := #[true, true, true, true, true, true, true, true, true, true, true, true, true, true, true, true, true, true, true]) rfl (by kernel_rfl) (T_callG (al := [(vQ zb), (vI .i64 ((wOf o).iD)), (vS (some ⟨b410_, 0, none⟩) o.w_Key.size cp411_), (vS (some ea355_) em356_ ec357_), (vI .i64 ((wOf o).minRev))]) (pre := [cl zb 97 [(Value.map (some kb)), (Value.iface 183 (vQ tb)), (Value.map (some wb)), (Value.map (some ib))], mp Value.string kb KM, setsP (List.map Prod.fst PM) S, cl tb 185 [(vQ (rt sb W)), (vI .i64 cnt), (vQ sb)], tr sb sb W, clf sb 182 [(Value.nilIface), (Value.nilIface), (Value.nilIface), (Value.nilIface), (vP none), (vP none), (vP none), (vI .i64 0)], mp pn wb (aggm PM), mp (vI .i64) ib (idm PM)]) rfl (lcons rfl (lcons (congrArg (vI .i64) ((by first | rfl | omega | (simp; done) | (simp; omega)) : o.w_ID = (wOf o).iD)) (lcons rfl (lcons rfl (lcons (congrArg (vI .i64) ((by first | rfl | omega | (simp; done) | (simp; omega)) : o.w_MinRev = (wOf o).minRev)) rfl))))) cb42 (gzAdd R420_ zb kb tb sb wb ib cnt PM KM S W (some ⟨b410_, 0, none⟩) (some ea355_) o.w_Key.size cp411_ em356_ ec357_ (wOf o) (RS.set_ hr426_ (by first | rfl | (simp [GW.cells, GO.cells, GA.cells]; done)) (by first | rfl | omega | (simp; done) | (simp; omega))) ((.inr ⟨he358_, _, _, _, rfl, (he359_.mono hs421_)⟩)) ((hG.mono hz_R_R420_)) (hcn) (hpl) (he30_) (hnd)) H437_ ?_)
        rintro R428_ v429_ p441_ w438_ hs427_ ⟨a430_, KM431_, S432_, W433_, cnt434_, rfl, rfl, he435_, he436_⟩ S440_ H439_
        have S442_ := Same.trans S416_ S440_
        have hz_R_R428_ := Sub.trans' hz_R_R420_ hs427_
        have hz_R352__R428_ := Sub.trans' hs421_ hs427_
        refine ⟨⟨Holds.rd H439_ 1 rfl, Holds.rd H439_ 9 rfl, Holds.rd H439_ 10 rfl, Holds.rd H439_ 11 rfl, (And.intro (Holds.rdf H439_ 6 rfl) (Holds.blk H439_ 6 rfl)), (Sub.trans' hz_R_R428_ (Holds.ro_at H439_ 0 rfl))⟩, ?_⟩
        refine A_done (by kernel_rfl) ?_
        refine (X_then (hK255_ _ _ ?_))
        refine C_reg ?_
        refine sv (v := (vQ b13_)) (by kernel_rfl) ?_
        refine S_list0 (T_store1 (v := (vB true)) rfl rfl z4 rfl H439_ 9 rfl (Nat.le_of_ble_eq_true (by rfl)) ?_)
        intro w443_ S445_ H444_
        have S446_ := Same.trans S442_ S445_
        refine wpList_nil (X_blkN (X_then (hK22_ _ _ ?_)))
        refine cr fun _ hK447_ => ?_
        refine sv (v := (vA #[(vB true), (vI .i64 0), (vS none 0 0), (vS none 0 0)])) (x_loadN (vs := [(vB true), (vI .i64 0), (vS none 0 0), (vS none 0 0)]) rfl underlying42 rfl z42 rfl (Rd.cells (Holds.rd H444_ 9 rfl) 0 rfl)) ?_
        refine S_list0 (T_storeN (vs := [(vB true), (vI .i64 0), (vS none 0 0), (vS none 0 0)]) rfl rfl z42 rfl (by simp [Value.oneCell']) H444_ 10 rfl (Nat.le_of_ble_eq_true (by rfl)) ?_)
        intro w448_ S450_ H449_
        have S451_ := Same.trans S446_ S450_
        refine wn (hK447_ _ _ ?_)
        refine C_ret ?_
        refine R_any (v := (vA #[(vB true), (vI .i64 0), (vS none 0 0), (vS none 0 0)])) (run_results1 rfl ⟨_, rfl, load_resN underlying42 rfl z42 rfl (vs := [(vB true), (vI .i64 0), (vS none 0 0), (vS none 0 0)]) (Holds.cl_cells H449_ 10 rfl 0 rfl)⟩) ?_
        have H452_ := Holds.pkF H449_ [0, 0, 0, 0, 0, 0, 0, 0, 0] 3
        exact ⟨R428_, _, _, rfl, hz_R_R428_, (.inr ⟨a430_, KM431_, S432_, W433_, cnt434_, rfl, rfl, (he30_), (he435_), (he436_)⟩), S451_, H452_⟩
    ·skip
     refine S_no (j := 14) (dj := 27) (b := false) rfl rfl (congrArg vB c53_f) (by decide) ?_
     refine S_no (j := 14) (dj := 27) (b := false) rfl rfl (congrArg vB c53_f) (by decide) ?_
     refine S_no (j := 14) (dj := 27) (b := false) rfl rfl (congrArg vB c53_f) (by decide) ?_
     refine S_no (j := 14) (dj := 27) (b := false) rfl rfl (congrArg vB c53_f) (by decide) ?_
     refine S_no (j := 14) (dj := 27) (b := false) rfl rfl (congrArg vB c53_f) (by decide) ?_
     refine S_noU (j := 19) (dj := 32) rfl rfl rfl ?_
     refine S_noU (j := 19) (dj := 32) rfl rfl rfl ?_
     refine S_noU (j := 19) (dj := 32) rfl rfl rfl ?_
     refine S_noU (j := 19) (dj := 32) rfl rfl rfl ?_
     refine S_noU (j := 19) (dj := 32) rfl rfl rfl ?_
     refine S_noU (j := 24) (dj := 37) rfl rfl rfl ?_
     refine S_noU (j := 24) (dj := 37) rfl rfl rfl ?_
     refine S_noU (j := 24) (dj := 37) rfl rfl rfl ?_
     refine S_noU (j := 24) (dj := 37) rfl rfl rfl ?_
     refine S_noU (j := 24) (dj := 37) rfl rfl rfl ?_
     refine S_noU (j := 24) (dj := 37) rfl rfl rfl ?_
     refine S_noU (j := 24) (dj := 37) rfl rfl rfl ?_
     refine S_noU (j := 19) (dj := 32) rfl rfl rfl ?_
     refine S_no (j := 14) (dj := 27) (b := false) rfl rfl (congrArg vB c53_f) (by decide) ?_
     refine S_yes (j := 10) (dj := 23) (b := false) rfl rfl (congrArg vB c52_f) (T_pickF (v := (vB false)) (congrArg vB c53_f) rfl ?_)
     refine S_list (T_pickF (v := (vB false)) (congrArg vB c52_f) rfl ?_)
     refine wn (hK27_ _ _ ?_)
     refine C_condF rfl ?_
     refine C_skip (X_then (hK26_ _ _ ?_))
     refine C_seq (fun _ hK453_ => ?_)
     refine A_start (S := fun w => Rd zb [(Value.map (some kb)), (Value.iface 183 (vQ tb)), (Value.map (some wb)), (Value.map (some ib))] w ∧ Rd b13_ [(vB false), (vI .i64 0), (vS none 0 0), (vS none 0 0)] w ∧ Rd b7_ [(vB false), (vI .i64 0), (vS none 0 0), (vS none 0 0)] w ∧ Rd b2_ [(vI .i64 o.kind), (vI .i64 o.w_ID), (Value.string o.w_Key), (Value.string o.w_End), (vB o.w_HasEnd), (vI .i64 o.w_MinRev), (Value.string o.key), (vI .i64 o.cur), (vI .i64 o.compact), o.events] w ∧ (Rd sb [(Value.nilIface), (Value.nilIface), (Value.nilIface), (Value.nilIface), (vP none), (vP none), (vP none), (vI .i64 0)] w ∧ Blk w sb) ∧ Sub R (hp w)) (N := 19) foll rfl rfl ?_
     have H454_ := Holds.drew_ H48_
     have hq456_ := And.intro (Holds.rd H454_ 1 rfl) (And.intro (Holds.rd H454_ 4 rfl) (And.intro (Holds.rd H454_ 5 rfl) (And.intro (Holds.rd H454_ 6 rfl) (And.intro ((And.intro (Holds.rdf H454_ 11 rfl) (Holds.blk H454_ 11 rfl))) ((Holds.ro_at H454_ 0 rfl))))))
     refine A_tk 0 (v := (vQ zb)) rfl (by kernel_rfl) (fun w hS => x_move rfl) hq456_ ?_
     refine A_tk 1 (v := (vP (some ⟨b2_, 1, none⟩))) rfl (by kernel_rfl) (fun w hS => by kernel_rfl) hq456_ ?_
     refine A_tk 2 (v := (vP (some ⟨b2_, 1, none⟩))) rfl (by kernel_rfl) (fun w hS => by kernel_rfl) hq456_ ?_
     refine A_tk 3 (v := (vI .i64 o.w_ID)) rfl (by kernel_rfl) (fun w hS => x_load1 rfl underlying2 rfl (hS.2.2.2.1 1 (vI .i64 o.w_ID) rfl)) hq456_ ?_
     refine A_tk 4 (v := (vP (some ⟨b2_, 1, none⟩))) rfl (by kernel_rfl) (fun w hS => by kernel_rfl) hq456_ ?_
     refine A_tk 5 (v := (vP (some ⟨b2_, 2, none⟩))) rfl (by kernel_rfl) (fun w hS => by kernel_rfl) hq456_ ?_
     refine A_tk 6 (v := (Value.string o.w_Key)) rfl (by kernel_rfl) (fun w hS => x_load1 rfl underlying9 rfl (hS.2.2.2.1 2 (Value.string o.w_Key) rfl)) hq456_ ?_
     refine A_tk 8 (v := (vP (some ⟨b2_, 1, none⟩))) rfl (by kernel_rfl) (fun w hS => by kernel_rfl) hq456_ ?_
     refine A_tk 9 (v := (vP (some ⟨b2_, 3, none⟩))) rfl (by kernel_rfl) (fun w hS => by kernel_rfl) hq456_ ?_
     refine A_tk 10 (v := (Value.string o.w_End)) rfl (by kernel_rfl) (fun w hS => x_load1 rfl underlying9 rfl (hS.2.2.2.1 3 (Value.string o.w_End) rfl)) hq456_ ?_
     refine A_tk 11 (v := (vP (some ⟨b2_, 1, none⟩))) rfl (by kernel_rfl) (fun w hS => by kernel_rfl) hq456_ ?_
     refine A_tk 12 (v := (vP (some ⟨b2_, 4, none⟩))) rfl (by kernel_rfl) (fun w hS => by kernel_rfl) hq456_ ?_
     refine A_tk 13 (v := (vB o.w_HasEnd)) rfl (by kernel_rfl) (fun w hS => x_load1 rfl underlying4 rfl (hS.2.2.2.1 4 (vB o.w_HasEnd) rfl)) hq456_ ?_
     refine A_tk 15 (v := (vP (some ⟨b2_, 1, none⟩))) rfl (by kernel_rfl) (fun w hS => by kernel_rfl) hq456_ ?_
     refine A_tk 16 (v := (vP (some ⟨b2_, 5, none⟩))) rfl (by kernel_rfl) (fun w hS => by kernel_rfl) hq456_ ?_
     refine A_tk 17 (v := (vI .i64 o.w_MinRev)) rfl (by kernel_rfl) (fun w hS => x_load1 rfl underlying2 rfl (hS.2.2.2.1 5 (vI .i64 o.w_MinRev) rfl)) hq456_ ?_
     refine A_ready (i := 7) (rs := [14]) (by kernel_rfl) ?_
     refine AllR.cons ?_ ?_
     ·skip
      refine A_op (ls' := #[true, true, true, true, true, true, true, true, true, true, true, true, true, true, false, true, true, true, false]) rfl (by kernel_rfl) (T_s2b rfl underlying9 underlying101 underlying5 H454_ ?_)
      intro b457_ cp458_ w459_ S461_ hc462_ H460_
      have S463_ := Same.trans (Same.trans S51_ (Same.drew _)) S461_
      have H464_ := Holds.resl H460_ 0 rfl (byteCells_bytesV _ : byteCells o.w_Key = bytesV (ints o.w_Key)) rfl
      have H465_ := Holds.resl H464_ 0 rfl (rfl : bytesV (ints o.w_Key) = bytesV (ints o.w_Key)) ((ints_length _).symm : o.w_Key.size = (List.length (ints o.w_Key)))
      refine ⟨⟨Holds.rd H465_ 2 rfl, Holds.rd H465_ 5 rfl, Holds.rd H465_ 6 rfl, Holds.rd H465_ 7 rfl, (And.intro (Holds.rdf H465_ 12 rfl) (Holds.blk H465_ 12 rfl)), (Holds.ro_at H465_ 1 rfl)⟩, ?_⟩
      refine A_ready (i := 14) (rs := []) (by kernel_rfl) ?_
      refine AllR.cons ?_ AllR.nil
      have H475_ := ((Holds.bring H465_ 1 rfl) :)
      refine A_op (ls' := #[true, true, true, true, true, true, true, true, true, true, true, true, true, true, true, true, true, true, false]) rfl (by kernel_rfl) (T_callG (al := [(Value.string o.w_End), (vB o.w_HasEnd)]) (pre := []) rfl rfl cb43 (gEnd R o.w_End o.w_HasEnd (hz)) H475_ ?_)
      rintro R467_ v468_ p479_ w476_ hs466_ hq480_ S478_ H477_
      rcases hq480_ with ⟨rfl, rfl, he469_⟩ | ⟨ea470_, em471_, ec472_, rfl, rfl, he473_, he474_⟩
      ·skip
       have S481_ := Same.trans S463_ S478_
       refine ⟨⟨Holds.rd H477_ 2 rfl, Holds.rd H477_ 5 rfl, Holds.rd H477_ 6 rfl, Holds.rd H477_ 7 rfl, (And.intro (Holds.rdf H477_ 12 rfl) (Holds.blk H477_ 12 rfl)), (Sub.trans' hs466_ (Holds.ro_at H477_ 0 rfl))⟩, ?_⟩
       refine A_ready (i := 18) (rs := []) (by kernel_rfl) ?_
       refine AllR.cons ?_ AllR.nil
       obtain ⟨R483_, hs484_, ⟨R485_, ha486_, hs487_⟩, H488_⟩ := Holds.gift H477_
       have hz_R_R483_ := Sub.trans' hs466_ hs484_
       have hr489_ : RS R483_ 1 (vS (some ⟨b457_, 0, none⟩) o.w_Key.size cp458_) (List.length (ints o.w_Key)) (bytesV (ints o.w_Key)) := (sl_RS ha486_ (Sub.rfl' _)).mono hs487_
       have H500_ := ((Holds.bring (Holds.bring (Holds.bring (Holds.bring (Holds.bring (Holds.bring (Holds.bring (Holds.bring (Holds.bring H488_ 3 rfl) 3 rfl) 11 rfl) 11 rfl) 11 rfl) 11 rfl) 11 rfl) 8 rfl) 8 rfl) :)
       refine A_op (ls' := #[true, true, true, true, true, true, true, true, true, true, true, true, true, true, true, true, true, true, true]) rfl (by kernel_rfl) (T_callG (al := [(vQ zb), (vI .i64 ((wOf o).iD)), (vS (some ⟨b457_, 0, none⟩) o.w_Key.size cp458_), (vS none 0 0), (vI .i64 ((wOf o).minRev))]) (pre := [cl zb 97 [(Value.map (some kb)), (Value.iface 183 (vQ tb)), (Value.map (some wb)), (Value.map (some ib))], mp Value.string kb KM, setsP (List.map Prod.fst PM) S, cl tb 185 [(vQ (rt sb W)), (vI .i64 cnt), (vQ sb)], tr sb sb W, clf sb 182 [(Value.nilIface), (Value.nilIface), (Value.nilIface), (Value.nilIface), (vP none), (vP none), (vP none), (vI .i64 0)], mp pn wb (aggm PM), mp (vI .i64) ib (idm PM)]) rfl (lcons rfl (lcons (congrArg (vI .i64) ((by first | rfl | omega | (simp; done) | (simp; omega)) : o.w_ID = (wOf o).iD)) (lcons rfl (lcons rfl (lcons (congrArg (vI .i64) ((by first | rfl | omega | (simp; done) | (simp; omega)) : o.w_MinRev = (wOf o).minRev)) rfl))))) cb42 (gzAdd R483_ zb kb tb sb wb ib cnt PM KM S W (some ⟨b457_, 0, none⟩) none o.w_Key.size cp458_ 0 0 (wOf o) (RS.set_ hr489_ (by first | rfl | (simp [GW.cells, GO.cells, GA.cells]; done)) (by first | rfl | omega | (simp; done) | (simp; omega))) ((.inl ⟨he469_, rfl⟩)) ((hG.mono hz_R_R483_)) (hcn) (hpl) (he30_) (hnd)) H500_ ?_)
       rintro R491_ v492_ p504_ w501_ hs490_ ⟨a493_, KM494_, S495_, W496_, cnt497_, rfl, rfl, he498_, he499_⟩ S503_ H502_
       have S505_ := Same.trans S481_ S503_
       have hz_R_R491_ := Sub.trans' hz_R_R483_ hs490_
       have hz_R467__R491_ := Sub.trans' hs484_ hs490_
       refine ⟨⟨Holds.rd H502_ 1 rfl, Holds.rd H502_ 9 rfl, Holds.rd H502_ 10 rfl, Holds.rd H502_ 11 rfl, (And.intro (Holds.rdf H502_ 6 rfl) (Holds.blk H502_ 6 rfl)), (Sub.trans' hz_R_R491_ (Holds.ro_at H502_ 0 rfl))⟩, ?_⟩
       refine A_done (by kernel_rfl) ?_
       refine (X_then (hK453_ _ _ ?_))
       refine C_reg ?_
       refine sv (v := (vQ b13_)) (by kernel_rfl) ?_
       refine S_list0 (T_store1 (v := (vB true)) rfl rfl z4 rfl H502_ 9 rfl (Nat.le_of_ble_eq_true (by rfl)) ?_)
       intro w506_ S508_ H507_
       have S509_ := Same.trans S505_ S508_
       refine wpList_nil (X_blkN (X_then (hK22_ _ _ ?_)))
       refine cr fun _ hK510_ => ?_
       refine sv (v := (vA #[(vB true), (vI .i64 0), (vS none 0 0), (vS none 0 0)])) (x_loadN (vs := [(vB true), (vI .i64 0), (vS none 0 0), (vS none 0 0)]) rfl underlying42 rfl z42 rfl (Rd.cells (Holds.rd H507_ 9 rfl) 0 rfl)) ?_
       refine S_list0 (T_storeN (vs := [(vB true), (vI .i64 0), (vS none 0 0), (vS none 0 0)]) rfl rfl z42 rfl (by simp [Value.oneCell']) H507_ 10 rfl (Nat.le_of_ble_eq_true (by rfl)) ?_)
       intro w511_ S513_ H512_
       have S514_ := Same.trans S509_ S513_
       refine wn (hK510_ _ _ ?_)
       refine C_ret ?_
       refine R_any (v := (vA #[(vB true), (vI .i64 0), (vS none 0 0), (vS none 0 0)])) (run_results1 rfl ⟨_, rfl, load_resN underlying42 rfl z42 rfl (vs := [(vB true), (vI .i64 0), (vS none 0 0), (vS none 0 0)]) (Holds.cl_cells H512_ 10 rfl 0 rfl)⟩) ?_
       have H515_ := Holds.pkF H512_ [0, 0, 0, 0, 0, 0, 0, 0, 0] 3
       exact ⟨R491_, _, _, rfl, hz_R_R491_, (.inr ⟨a493_, KM494_, S495_, W496_, cnt497_, rfl, rfl, (he30_), (he498_), (he499_)⟩), S514_, H515_⟩
      ·skip
       have S482_ := Same.trans S463_ S478_
       refine ⟨⟨Holds.rd H477_ 2 rfl, Holds.rd H477_ 5 rfl, Holds.rd H477_ 6 rfl, Holds.rd H477_ 7 rfl, (And.intro (Holds.rdf H477_ 12 rfl) (Holds.blk H477_ 12 rfl)), (Sub.trans' hs466_ (Holds.ro_at H477_ 0 rfl))⟩, ?_⟩
       refine A_ready (i := 18) (rs := []) (by kernel_rfl) ?_
       refine AllR.cons ?_ AllR.nil
       obtain ⟨R516_, hs517_, ⟨R518_, ha519_, hs520_⟩, H521_⟩ := Holds.gift H477_
       have hz_R_R516_ := Sub.trans' hs466_ hs517_
       have hr522_ : RS R516_ 1 (vS (some ⟨b457_, 0, none⟩) o.w_Key.size cp458_) (List.length (ints o.w_Key)) (bytesV (ints o.w_Key)) := (sl_RS ha519_ (Sub.rfl' _)).mono hs520_
       have H533_ := ((Holds.bring (Holds.bring (Holds.bring (Holds.bring (Holds.bring (Holds.bring (Holds.bring (Holds.bring (Holds.bring H521_ 3 rfl) 3 rfl) 11 rfl) 11 rfl) 11 rfl) 11 rfl) 11 rfl) 8 rfl) 8 rfl) :)
       refine A_op (ls' := #[true, true, true, true, true, true, true, true, true, true, true, true, true, true, true, true, true, true, true]) rfl (by kernel_rfl) (T_callG (al := [(vQ zb), (vI .i64 ((wOf o).iD)), (vS (some ⟨b457_, 0, none⟩) o.w_Key.size cp458_), (vS (some ea470_) em471_ ec472_), (vI .i64 ((wOf o).minRev))]) (pre := [cl zb 97 [(Value.map (some kb)), (Value.iface 183 (vQ tb)), (Value.map (some wb)), (Value.map (some ib))], mp Value.string kb KM, setsP (List.map Prod.fst PM) S, cl tb 185 [(vQ (rt sb W)), (vI .i64 cnt), (vQ sb)], tr sb sb W, clf sb 182 [(Value.nilIface), (Value.nilIface), (Value.nilIface), (Value.nilIface), (vP none), (vP none), (vP none), (vI .i64 0)], mp pn wb (aggm PM), mp (vI .i64) ib (idm PM)]) rfl (lcons rfl (lcons (congrArg (vI .i64) ((by first | rfl | omega | (simp; done) | (simp; omega)) : o.w_ID = (wOf o).iD)) (lcons rfl (lcons rfl (lcons (congrArg (vI .i64) ((by first | rfl | omega | (simp; done) | (simp; omega)) : o.w_MinRev = (wOf o).minRev)) rfl))))) cb42 (gzAdd R516_ zb kb tb sb wb ib cnt PM KM S W (some ⟨b457_, 0, none⟩) (some ea470_) o.w_Key.size cp458_ em471_ ec472_ (wOf o) (RS.set_ hr522_ (by first | rfl | (simp [GW.cells, GO.cells, GA.cells]; done)) (by first | rfl | omega | (simp; done) | (simp; omega))) ((.inr ⟨he473_, _, _, _, rfl, (he474_.mono hs517_)⟩)) ((hG.mono hz_R_R516_)) (hcn) (hpl) (he30_) (hnd)) H533_ ?_)
       rintro R524_ v525_ p537_ w534_ hs523_ ⟨a526_, KM527_, S528_, W529_, cnt530_, rfl, rfl, he531_, he532_⟩ S536_ H535_
       have S538_ := Same.trans S482_ S536_
       have hz_R_R524_ := Sub.trans' hz_R_R516_ hs523_
       have hz_R467__R524_ := Sub.trans' hs517_ hs523_
       refine ⟨⟨Holds.rd H535_ 1 rfl, Holds.rd H535_ 9 rfl, Holds.rd H535_ 10 rfl, Holds.rd H535_ 11 rfl, (And.intro (Holds.rdf H535_ 6 rfl) (Holds.blk H535_ 6 rfl)), (Sub.trans' hz_R_R524_ (Holds.ro_at H535_ 0 rfl))⟩, ?_⟩
       refine A_done (by kernel_rfl) ?_
       refine (X_then (hK453_ _ _ ?_))
       refine C_reg ?_
       refine sv (v := (vQ b13_)) (by kernel_rfl) ?_
       refine S_list0 (T_store1 (v := (vB true)) rfl rfl z4 rfl H535_ 9 rfl (Nat.le_of_ble_eq_true (by rfl)) ?_)
       intro w539_ S541_ H540_
       have S542_ := Same.trans S538_ S541_
       refine wpList_nil (X_blkN (X_then (hK22_ _ _ ?_)))
       refine cr fun _ hK543_ => ?_
       refine sv (v := (vA #[(vB true), (vI .i64 0), (vS none 0 0), (vS none 0 0)])) (x_loadN (vs := [(vB true), (vI .i64 0), (vS none 0 0), (vS none 0 0)]) rfl underlying42 rfl z42 rfl (Rd.cells (Holds.rd H540_ 9 rfl) 0 rfl)) ?_
       refine S_list0 (T_storeN (vs := [(vB true), (vI .i64 0), (vS none 0 0), (vS none 0 0)]) rfl rfl z42 rfl (by simp [Value.oneCell']) H540_ 10 rfl (Nat.le_of_ble_eq_true (by rfl)) ?_)
       intro w544_ S546_ H545_
       have S547_ := Same.trans S542_ S546_
       refine wn (hK543_ _ _ ?_)
       refine C_ret ?_
       refine R_any (v := (vA #[(vB true), (vI .i64 0), (vS none 0 0), (vS none 0 0)])) (run_results1 rfl ⟨_, rfl, load_resN underlying42 rfl z42 rfl (vs := [(vB true), (vI .i64 0), (vS none 0 0), (vS none 0 0)]) (Holds.cl_cells H545_ 10 rfl 0 rfl)⟩) ?_
       have H548_ := Holds.pkF H545_ [0, 0, 0, 0, 0, 0, 0, 0, 0] 3
       exact ⟨R524_, _, _, rfl, hz_R_R524_, (.inr ⟨a526_, KM527_, S528_, W529_, cnt530_, rfl, rfl, (he30_), (he531_), (he532_)⟩), S547_, H548_⟩
     refine AllR.cons ?_ AllR.nil
     refine A_op (ls' := #[true, true, true, true, true, true, true, false, true, true, true, true, true, true, true, true, true, true, false]) rfl (by kernel_rfl) (T_callG (al := [(Value.string o.w_End), (vB o.w_HasEnd)]) (pre := []) rfl rfl cb43 (gEnd R o.w_End o.w_HasEnd (hz)) H454_ ?_)
     rintro R550_ v551_ p561_ w558_ hs549_ hq562_ S560_ H559_
     rcases hq562_ with ⟨rfl, rfl, he552_⟩ | ⟨ea553_, em554_, ec555_, rfl, rfl, he556_, he557_⟩
     ·skip
      have S563_ := Same.trans (Same.trans S51_ (Same.drew _)) S560_
      refine ⟨⟨Holds.rd H559_ 1 rfl, Holds.rd H559_ 4 rfl, Holds.rd H559_ 5 rfl, Holds.rd H559_ 6 rfl, (And.intro (Holds.rdf H559_ 11 rfl) (Holds.blk H559_ 11 rfl)), (Sub.trans' hs549_ (Holds.ro_at H559_ 0 rfl))⟩, ?_⟩
      refine A_ready (i := 7) (rs := []) (by kernel_rfl) ?_
      refine AllR.cons ?_ AllR.nil
      refine A_op (ls' := #[true, true, true, true, true, true, true, true, true, true, true, true, true, true, true, true, true, true, false]) rfl (by kernel_rfl) (T_s2b rfl underlying9 underlying101 underlying5 H559_ ?_)
      intro b565_ cp566_ w567_ S569_ hc570_ H568_
      have S571_ := Same.trans S563_ S569_
      have H572_ := Holds.resl H568_ 0 rfl (byteCells_bytesV _ : byteCells o.w_Key = bytesV (ints o.w_Key)) rfl
      have H573_ := Holds.resl H572_ 0 rfl (rfl : bytesV (ints o.w_Key) = bytesV (ints o.w_Key)) ((ints_length _).symm : o.w_Key.size = (List.length (ints o.w_Key)))
      refine ⟨⟨Holds.rd H573_ 2 rfl, Holds.rd H573_ 5 rfl, Holds.rd H573_ 6 rfl, Holds.rd H573_ 7 rfl, (And.intro (Holds.rdf H573_ 12 rfl) (Holds.blk H573_ 12 rfl)), (Sub.trans' hs549_ (Holds.ro_at H573_ 1 rfl))⟩, ?_⟩
      refine A_ready (i := 18) (rs := []) (by kernel_rfl) ?_
      refine AllR.cons ?_ AllR.nil
      have H574_ := ((Holds.bring H573_ 1 rfl) :)
      obtain ⟨R575_, hs576_, ⟨R577_, ha578_, hs579_⟩, H580_⟩ := Holds.gift H574_
      have hz_R_R575_ := Sub.trans' hs549_ hs576_
      have hr581_ : RS R575_ 1 (vS (some ⟨b565_, 0, none⟩) o.w_Key.size cp566_) (List.length (ints o.w_Key)) (bytesV (ints o.w_Key)) := (sl_RS ha578_ (Sub.rfl' _)).mono hs579_
      have H592_ := ((Holds.bring (Holds.bring (Holds.bring (Holds.bring (Holds.bring (Holds.bring (Holds.bring (Holds.bring (Holds.bring H580_ 3 rfl) 3 rfl) 11 rfl) 11 rfl) 11 rfl) 11 rfl) 11 rfl) 8 rfl) 8 rfl) :)
      refine A_op (ls' := #[true, true, true, true, true, true, true, true, true, true, true, true, true, true, true, true, true, true, true]) rfl (by kernel_rfl) (T_callG (al := [(vQ zb), (vI .i64 ((wOf o).iD)), (vS (some ⟨b565_, 0, none⟩) o.w_Key.size cp566_), (vS none 0 0), (vI .i64 ((wOf o).minRev))]) (pre := [cl zb 97 [(Value.map (some kb)), (Value.iface 183 (vQ tb)), (Value.map (some wb)), (Value.map (some ib))], mp Value.string kb KM, setsP (List.map Prod.fst PM) S, cl tb 185 [(vQ (rt sb W)), (vI .i64 cnt), (vQ sb)], tr sb sb W, clf sb 182 [(Value.nilIface), (Value.nilIface), (Value.nilIface), (Value.nilIface), (vP none), (vP none), (vP none), (vI .i64 0)], mp pn wb (aggm PM), mp (vI .i64) ib (idm PM)]) rfl (lcons rfl (lcons (congrArg (vI .i64) ((by first | rfl | omega | (simp; done) | (simp; omega)) : o.w_ID = (wOf o).iD)) (lcons rfl (lcons rfl (lcons (congrArg (vI .i64) ((by first | rfl | omega | (simp; done) | (simp; omega)) : o.w_MinRev = (wOf o).minRev)) rfl))))) cb42 (gzAdd R575_ zb kb tb sb wb ib cnt PM KM S W (some ⟨b565_, 0, none⟩) none o.w_Key.size cp566_ 0 0 (wOf o) (RS.set_ hr581_ (by first | rfl | (simp [GW.cells, GO.cells, GA.cells]; done)) (by first | rfl | omega | (simp; done) | (simp; omega))) ((.inl ⟨he552_, rfl⟩)) ((hG.mono hz_R_R575_)) (hcn) (hpl) (he30_) (hnd)) H592_ ?_)
      rintro R583_ v584_ p596_ w593_ hs582_ ⟨a585_, KM586_, S587_, W588_, cnt589_, rfl, rfl, he590_, he591_⟩ S595_ H594_
      have S597_ := Same.trans S571_ S595_
      have hz_R_R583_ := Sub.trans' hz_R_R575_ hs582_
      have hz_R550__R583_ := Sub.trans' hs576_ hs582_
      refine ⟨⟨Holds.rd H594_ 1 rfl, Holds.rd H594_ 9 rfl, Holds.rd H594_ 10 rfl, Holds.rd H594_ 11 rfl, (And.intro (Holds.rdf H594_ 6 rfl) (Holds.blk H594_ 6 rfl)), (Sub.trans' hz_R_R583_ (Holds.ro_at H594_ 0 rfl))⟩, ?_⟩
      refine A_done (by kernel_rfl) ?_
      refine (X_then (hK453_ _ _ ?_))
      refine C_reg ?_
      refine sv (v := (vQ b13_)) (by kernel_rfl) ?_
      refine S_list0 (T_store1 (v := (vB true)) rfl rfl z4 rfl H594_ 9 rfl (Nat.le_of_ble_eq_true (by rfl)) ?_)
      intro w598_ S600_ H599_
      have S601_ := Same.trans S597_ S600_
      refine wpList_nil (X_blkN (X_then (hK22_ _ _ ?_)))
      refine cr fun _ hK602_ => ?_
      refine sv (v := (vA #[(vB true), (vI .i64 0), (vS none 0 0), (vS none 0 0)])) (x_loadN (vs := [(vB true), (vI .i64 0), (vS none 0 0), (vS none 0 0)]) rfl underlying42 rfl z42 rfl (Rd.cells (Holds.rd H599_ 9 rfl) 0 rfl)) ?_
      refine S_list0 (T_storeN (vs := [(vB true), (vI .i64 0), (vS none 0 0), (vS none 0 0)]) rfl rfl z42 rfl (by simp [Value.oneCell']) H599_ 10 rfl (Nat.le_of_ble_eq_true (by rfl)) ?_)
      intro w603_ S605_ H604_
      have S606_ := Same.trans S601_ S605_
      refine wn (hK602_ _ _ ?_)
      refine C_ret ?_
      refine R_any (v := (vA #[(vB true), (vI .i64 0), (vS none 0 0), (vS none 0 0)])) (run_results1 rfl ⟨_, rfl, load_resN underlying42 rfl z42 rfl (vs := [(vB true), (vI .i64 0), (vS none 0 0), (vS none 0 0)]) (Holds.cl_cells H604_ 10 rfl 0 rfl)⟩) ?_
      have H607_ := Holds.pkF H604_ [0, 0, 0, 0, 0, 0, 0, 0, 0] 3
      exact ⟨R583_, _, _, rfl, hz_R_R583_, (.inr ⟨a585_, KM586_, S587_, W588_, cnt589_, rfl, rfl, (he30_), (he590_), (he591_)⟩), S606_, H607_⟩
     ·skip
      have S564_ := Same.trans (Same.trans S51_ (Same.drew _)) S560_
      refine ⟨⟨Holds.rd H559_ 1 rfl, Holds.rd H559_ 4 rfl, Holds.rd H559_ 5 rfl, Holds.rd H559_ 6 rfl, (And.intro (Holds.rdf H559_ 11 rfl) (Holds.blk H559_ 11 rfl)), (Sub.trans' hs549_ (Holds.ro_at H559_ 0 rfl))⟩, ?_⟩
      refine A_ready (i := 7) (rs := []) (by kernel_rfl) ?_
      refine AllR.cons ?_ AllR.nil
      refine A_op (ls' := #[true, true, true, true, true, true, true, true, true, true, true, true, true, true, true, true, true, true, false]) rfl (by kernel_rfl) (T_s2b rfl underlying9 underlying101 underlying5 H559_ ?_)
      intro b608_ cp609_ w610_ S612_ hc613_ H611_
      have S614_ := Same.trans S564_ S612_
      have H615_ := Holds.resl H611_ 0 rfl (byteCells_bytesV _ : byteCells o.w_Key = bytesV (ints o.w_Key)) rfl
      have H616_ := Holds.resl H615_ 0 rfl (rfl : bytesV (ints o.w_Key) = bytesV (ints o.w_Key)) ((ints_length _).symm : o.w_Key.size = (List.length (ints o.w_Key)))
      refine ⟨⟨Holds.rd H616_ 2 rfl, Holds.rd H616_ 5 rfl, Holds.rd H616_ 6 rfl, Holds.rd H616_ 7 rfl, (And.intro (Holds.rdf H616_ 12 rfl) (Holds.blk H616_ 12 rfl)), (Sub.trans' hs549_ (Holds.ro_at H616_ 1 rfl))⟩, ?_⟩
      refine A_ready (i := 18) (rs := []) (by kernel_rfl) ?_
      refine AllR.cons ?_ AllR.nil
      have H617_ := ((Holds.bring H616_ 1 rfl) :)
      obtain ⟨R618_, hs619_, ⟨R620_, ha621_, hs622_⟩, H623_⟩ := Holds.gift H617_
      have hz_R_R618_ := Sub.trans' hs549_ hs619_
      have hr624_ : RS R618_ 1 (vS (some ⟨b608_, 0, none⟩) o.w_Key.size cp609_) (List.length (ints o.w_Key)) (bytesV (ints o.w_Key)) := (sl_RS ha621_ (Sub.rfl' _)).mono hs622_
      have H635_ := ((Holds.bring (Holds.bring (Holds.bring (Holds.bring (Holds.bring (Holds.bring (Holds.bring (Holds.bring (Holds.bring H623_ 3 rfl) 3 rfl) 11 rfl) 11 rfl) 11 rfl) 11 rfl) 11 rfl) 8 rfl) 8 rfl) :)
      refine A_op (ls' := #[true, true, true, true, true, true, true, true, true, true, true, true, true, true, true, true, true, true, true]) rfl (by kernel_rfl) (T_callG (al := [(vQ zb), (vI .i64 ((wOf o).iD)), (vS (some ⟨b608_, 0, none⟩) o.w_Key.size cp609_), (vS (some ea553_) em554_ ec555_), (vI .i64 ((wOf o).minRev))]) (pre := [cl zb 97 [(Value.map (some kb)), (Value.iface 183 (vQ tb)), (Value.map (some wb)), (Value.map (some ib))], mp Value.string kb KM, setsP (List.map Prod.fst PM) S, cl tb 185 [(vQ (rt sb W)), (vI .i64 cnt), (vQ sb)], tr sb sb W, clf sb 182 [(Value.nilIface), (Value.nilIface), (Value.nilIface), (Value.nilIface), (vP none), (vP none), (vP none), (vI .i64 0)], mp pn wb (aggm PM), mp (vI .i64) ib (idm PM)]) rfl (lcons rfl (lcons (congrArg (vI .i64) ((by first | rfl | omega | (simp; done) | (simp; omega)) : o.w_ID = (wOf o).iD)) (lcons rfl (lcons rfl (lcons (congrArg (vI .i64) ((by first | rfl | omega | (simp; done) | (simp; omega)) : o.w_MinRev = (wOf o).minRev)) rfl))))) cb42 (gzAdd R618_ zb kb tb sb wb ib cnt PM KM S W (some ⟨b608_, 0, none⟩) (some ea553_) o.w_Key.size cp609_ em554_ ec555_ (wOf o) (RS.set_ hr624_ (by first | rfl | (simp [GW.cells, GO.cells, GA.cells]; done)) (by first | rfl | omega | (simp; done) | (simp; omega))) ((.inr ⟨he556_, _, _, _, rfl, (he557_.mono hs619_)⟩)) ((hG.mono hz_R_R618_)) (hcn) (hpl) (he30_) (hnd)) H635_ ?_)
      rintro R626_ v627_ p639_ w636_ hs625_ ⟨a628_, KM629_, S630_, W631_, cnt632_, rfl, rfl, he633_, he634_⟩ S638_ H637_
      have S640_ := Same.trans S614_ S638_
      have hz_R_R626_ := Sub.trans' hz_R_R618_ hs625_
      have hz_R550__R626_ := Sub.trans' hs619_ hs625_
      refine ⟨⟨Holds.rd H637_ 1 rfl, Holds.rd H637_ 9 rfl, Holds.rd H637_ 10 rfl, Holds.rd H637_ 11 rfl, (And.intro (Holds.rdf H637_ 6 rfl) (Holds.blk H637_ 6 rfl)), (Sub.trans' hz_R_R626_ (Holds.ro_at H637_ 0 rfl))⟩, ?_⟩
      refine A_done (by kernel_rfl) ?_
      refine (X_then (hK453_ _ _ ?_))
      refine C_reg ?_
      refine sv (v := (vQ b13_)) (by kernel_rfl) ?_
      refine S_list0 (T_store1 (v := (vB true)) rfl rfl z4 rfl H637_ 9 rfl (Nat.le_of_ble_eq_true (by rfl)) ?_)
      intro w641_ S643_ H642_
      have S644_ := Same.trans S640_ S643_
      refine wpList_nil (X_blkN (X_then (hK22_ _ _ ?_)))
      refine cr fun _ hK645_ => ?_
      refine sv (v := (vA #[(vB true), (vI .i64 0), (vS none 0 0), (vS none 0 0)])) (x_loadN (vs := [(vB true), (vI .i64 0), (vS none 0 0), (vS none 0 0)]) rfl underlying42 rfl z42 rfl (Rd.cells (Holds.rd H642_ 9 rfl) 0 rfl)) ?_
      refine S_list0 (T_storeN (vs := [(vB true), (vI .i64 0), (vS none 0 0), (vS none 0 0)]) rfl rfl z42 rfl (by simp [Value.oneCell']) H642_ 10 rfl (Nat.le_of_ble_eq_true (by rfl)) ?_)
      intro w646_ S648_ H647_
      have S649_ := Same.trans S644_ S648_
      refine wn (hK645_ _ _ ?_)
      refine C_ret ?_
      refine R_any (v := (vA #[(vB true), (vI .i64 0), (vS none 0 0), (vS none 0 0)])) (run_results1 rfl ⟨_, rfl, load_resN underlying42 rfl z42 rfl (vs := [(vB true), (vI .i64 0), (vS none 0 0), (vS none 0 0)]) (Holds.cl_cells H647_ 10 rfl 0 rfl)⟩) ?_
      have H650_ := Holds.pkF H647_ [0, 0, 0, 0, 0, 0, 0, 0, 0] 3
      exact ⟨R626_, _, _, rfl, hz_R_R626_, (.inr ⟨a628_, KM629_, S630_, W631_, cnt632_, rfl, rfl, (he30_), (he633_), (he634_)⟩), S649_, H650_⟩
 ·have c25_fp : ¬ (o.kind = 1) := of_decide_eq_false c25_f
  omega
end Go.Proofs.YtlnihndjepjagaaGreat
set_option linter.unusedVariables false
set_option linter.unusedSimpArgs false
namespace Go.Proofs.YtlnihndjepjagaaGreat
open Go Go.RowKit Gw Tryz
open Go.Value renaming int → vI, bool → vB, slice → vS, pointer → vP, agg → vA, tuple → vT

set_option maxHeartbeats 8000000 in
theorem gdHas (R : HP) (zb kb tb sb wb ib : Nat) (cnt : Int) (PM : List (Nat × GW)) (KM : List (ByteArray × Value)) (S : List Nat) (W : TR) (o : GO) (hG : GSt R PM KM S W) (hcn : cnt = (List.length (ino W) : Int) ∧ (ino W).length ≤ List.length PM) (hpl : PM.length ≤ 100000) (hk : o.kind = 3) (hk0 : o.key.size ≠ 0) (hks : o.key.size ≤ 1000000000000000) (hPP : ∀ x ∈ gws PM, WProper x) :
    TriG Tryz.prog 25 #[(vQ zb), (vA #[(vI .i64 o.kind), (vI .i64 o.w_ID), (Value.string o.w_Key), (Value.string o.w_End), (vB o.w_HasEnd), (vI .i64 o.w_MinRev), (Value.string o.key), (vI .i64 o.cur), (vI .i64 o.compact), o.events])] R [cl zb 97 [(Value.map (some kb)), (Value.iface 183 (vQ tb)), (Value.map (some wb)), (Value.map (some ib))], mp Value.string kb KM, setsP (List.map Prod.fst PM) S, cl tb 185 [(vQ (rt sb W)), (vI .i64 cnt), (vQ sb)], tr sb sb W, clf sb 182 [(Value.nilIface), (Value.nilIface), (Value.nilIface), (Value.nilIface), (vP none), (vP none), (vP none), (vI .i64 0)], mp pn wb (aggm PM), mp (vI .i64) ib (idm PM)] (fun R' v__ post__ => v__ = (vA #[(vB (List.any (gws PM) (fun x => seesB x o.key))), (vI .i64 0), (vS none 0 0), (vS none 0 0)]) ∧ post__ = [cl zb 97 [(Value.map (some kb)), (Value.iface 183 (vQ tb)), (Value.map (some wb)), (Value.map (some ib))], mp Value.string kb KM, setsP (List.map Prod.fst PM) S, cl tb 185 [(vQ (rt sb W)), (vI .i64 cnt), (vQ sb)], tr sb sb W, clf sb 182 [(Value.nilIface), (Value.nilIface), (Value.nilIface), (Value.nilIface), (vP none), (vP none), (vP none), (vI .i64 0)], mp pn wb (aggm PM), mp (vI .i64) ib (idm PM)]) := by
 refine TriG.into (n := 154) (al := [(vQ zb), (vA #[(vI .i64 o.kind), (vI .i64 o.w_ID), (Value.string o.w_Key), (Value.string o.w_End), (vB o.w_HasEnd), (vI .i64 o.w_MinRev), (Value.string o.key), (vI .i64 o.cur), (vI .i64 o.compact), o.events])]) func25 rfl ntmps25 rfl rfl fun w F H => ?_
 refine cr fun _ hK1_ => ?_
 refine S_list (T_box (v := (vA #[(vI .i64 o.kind), (vI .i64 o.w_ID), (Value.string o.w_Key), (Value.string o.w_End), (vB o.w_HasEnd), (vI .i64 o.w_MinRev), (Value.string o.key), (vI .i64 o.cur), (vI .i64 o.compact), o.events])) rfl H ?_)
 intro b2_ w3_ S5_ H4_
 have S6_ := Same.trans (Same.refl w) S5_
 refine S_list (T_alloc z42 H4_ ?_)
 intro b7_ w8_ S10_ H9_
 have S11_ := Same.trans S6_ S10_
 refine wn (hK1_ _ _ ?_)
 refine cr fun _ hK12_ => ?_
 refine sv (v := (vA #[(vB false), (vI .i64 0), (vS none 0 0), (vS none 0 0)])) (by kernel_rfl) ?_
 refine S_list (T_alloc z42 H9_ ?_)
 intro b13_ w14_ S16_ H15_
 have S17_ := Same.trans S11_ S16_
 refine S_list0 (T_storeN (vs := [(vB false), (vI .i64 0), (vS none 0 0), (vS none 0 0)]) rfl rfl z42 rfl (by simp [Value.oneCell']) H15_ 0 rfl (Nat.le_of_ble_eq_true (by rfl)) ?_)
 intro w18_ S20_ H19_
 have S21_ := Same.trans S17_ S20_
 refine wn (hK12_ _ _ ?_)
 refine C_seq (fun _ hK22_ => ?_)
 refine cr fun _ hK23_ => ?_
 refine sv (v := (vQ b2_)) (by kernel_rfl) ?_
 refine sv (v := (vI .i64 o.kind)) (x_load1 rfl underlying3 rfl ((Holds.rd H19_ 2 rfl) 0 (vI .i64 o.kind) rfl)) ?_
 refine wn (hK23_ _ _ ?_)
 refine C_block ?_
 refine cr fun _ hK24_ => ?_
 refine sv (v := (vB (decide (o.kind = 1)))) (x_bin rfl rfl rfl) ?_
 refine sv (v := (vB (decide (o.kind = 1)))) (x_assign rfl) ?_
 refine wn (hK24_ _ _ ?_)
 refine C_cond (b := decide (o.kind = 1)) rfl (fun c25_t => ?_) (fun c25_f => ?_)
 ·have c25_tp : o.kind = 1 := of_decide_eq_true c25_t
  omega
 ·have c25_fp : ¬ (o.kind = 1) := of_decide_eq_false c25_f
  refine cr fun _ hK26_ => ?_
  refine sv (v := (vB (decide (o.kind = 2)))) (x_bin rfl rfl rfl) ?_
  refine sv (v := (vB (decide (o.kind = 2)))) (x_assign rfl) ?_
  refine wn (hK26_ _ _ ?_)
  refine C_cond (b := decide (o.kind = 2)) rfl (fun c27_t => ?_) (fun c27_f => ?_)
  ·have c27_tp : o.kind = 2 := of_decide_eq_true c27_t
   omega
  ·have c27_fp : ¬ (o.kind = 2) := of_decide_eq_false c27_f
   refine cr fun _ hK28_ => ?_
   refine sv (v := (vB (decide (o.kind = 3)))) (x_bin rfl rfl rfl) ?_
   refine sv (v := (vB (decide (o.kind = 3)))) (x_assign rfl) ?_
   refine wn (hK28_ _ _ ?_)
   refine C_cond (b := decide (o.kind = 3)) rfl (fun c29_t => ?_) (fun c29_f => ?_)
   ·have c29_tp : o.kind = 3 := of_decide_eq_true c29_t
    refine C_reg ?_
    refine sm (vQ zb) ?_
    refine sv (v := (vP (some ⟨b2_, 6, none⟩))) (by kernel_rfl) ?_
    refine sv (v := (Value.string o.key)) (x_load1 rfl underlying9 rfl ((Holds.rd H19_ 2 rfl) 6 (Value.string o.key) rfl)) ?_
    have H31_ := ((Holds.bring (Holds.bring (Holds.bring (Holds.bring (Holds.bring (Holds.bring (Holds.bring (Holds.bring H19_ 10 rfl) 10 rfl) 10 rfl) 10 rfl) 10 rfl) 10 rfl) 10 rfl) 10 rfl) :)
    refine S_list (T_call (al := [(vQ zb), (Value.string o.key)]) (pre := [cl zb 97 [(Value.map (some kb)), (Value.iface 183 (vQ tb)), (Value.map (some wb)), (Value.map (some ib))], mp Value.string kb KM, setsP (List.map Prod.fst PM) S, cl tb 185 [(vQ (rt sb W)), (vI .i64 cnt), (vQ sb)], tr sb sb W, clf sb 182 [(Value.nilIface), (Value.nilIface), (Value.nilIface), (Value.nilIface), (vP none), (vP none), (vP none), (vI .i64 0)], mp pn wb (aggm PM)]) rfl rfl cb45 (gzContains R zb kb tb sb wb ib cnt PM KM S W o.key (hG) (hcn) (hpl) (hk0) (hks) (hPP)) H31_ ?_)
    rintro v30_ p35_ w32_ ⟨rfl, rfl⟩ S34_ H33_
    have S36_ := Same.trans S21_ S34_
    refine sv (v := (vQ b13_)) (by kernel_rfl) ?_
    refine S_list0 (T_store1 (v := (vB (List.any (gws PM) (fun x => seesB x o.key)))) rfl rfl z4 rfl H33_ 8 rfl (Nat.le_of_ble_eq_true (by rfl)) ?_)
    intro w37_ S39_ H38_
    have S40_ := Same.trans S36_ S39_
    refine wpList_nil (X_blkN (X_then (hK22_ _ _ ?_)))
    refine cr fun _ hK41_ => ?_
    refine sv (v := (vA #[(vB (List.any (gws PM) (fun x => seesB x o.key))), (vI .i64 0), (vS none 0 0), (vS none 0 0)])) (x_loadN (vs := [(vB (List.any (gws PM) (fun x => seesB x o.key))), (vI .i64 0), (vS none 0 0), (vS none 0 0)]) rfl underlying42 rfl z42 rfl (Rd.cells (Holds.rd H38_ 8 rfl) 0 rfl)) ?_
    refine S_list0 (T_storeN (vs := [(vB (List.any (gws PM) (fun x => seesB x o.key))), (vI .i64 0), (vS none 0 0), (vS none 0 0)]) rfl rfl z42 rfl (by simp [Value.oneCell']) H38_ 9 rfl (Nat.le_of_ble_eq_true (by rfl)) ?_)
    intro w42_ S44_ H43_
    have S45_ := Same.trans S40_ S44_
    refine wn (hK41_ _ _ ?_)
    refine C_ret ?_
    refine R_any (v := (vA #[(vB (List.any (gws PM) (fun x => seesB x o.key))), (vI .i64 0), (vS none 0 0), (vS none 0 0)])) (run_results1 rfl ⟨_, rfl, load_resN underlying42 rfl z42 rfl (vs := [(vB (List.any (gws PM) (fun x => seesB x o.key))), (vI .i64 0), (vS none 0 0), (vS none 0 0)]) (Holds.cl_cells H43_ 9 rfl 0 rfl)⟩) ?_
    have H46_ := Holds.pkF H43_ [0, 0, 0, 0, 0, 0, 0, 0, 3] 3
    exact ⟨R, _, _, rfl, (Sub.rfl' _), ⟨rfl, rfl⟩, S45_, H46_⟩
   ·have c29_fp : ¬ (o.kind = 3) := of_decide_eq_false c29_f
    omega

set_option maxHeartbeats 8000000 in
theorem gdKey (R : HP) (zb kb tb sb wb ib : Nat) (cnt : Int) (KM : List (ByteArray × Value)) (S : List Nat) (W : TR) (a : Nat) (x : GW) (o : GO) (hG : GSt R [(a, x)] KM S W) (hcn : cnt = (List.length (ino W) : Int) ∧ (ino W).length ≤ List.length [(a, x)]) (hx : x.hasEnd = false) (hks : x.key.size ≤ 1000000000000000) (hk : o.kind = 4) :
    TriG Tryz.prog 25 #[(vQ zb), (vA #[(vI .i64 o.kind), (vI .i64 o.w_ID), (Value.string o.w_Key), (Value.string o.w_End), (vB o.w_HasEnd), (vI .i64 o.w_MinRev), (Value.string x.key), (vI .i64 o.cur), (vI .i64 o.compact), o.events])] R [cl zb 97 [(Value.map (some kb)), (Value.iface 183 (vQ tb)), (Value.map (some wb)), (Value.map (some ib))], mp Value.string kb KM, setsP (List.map Prod.fst [(a, x)]) S, cl tb 185 [(vQ (rt sb W)), (vI .i64 cnt), (vQ sb)], tr sb sb W, clf sb 182 [(Value.nilIface), (Value.nilIface), (Value.nilIface), (Value.nilIface), (vP none), (vP none), (vP none), (vI .i64 0)], mp pn wb (aggm [(a, x)]), mp (vI .i64) ib (idm [(a, x)])] (fun R' v__ post__ => ∃ (v' : Value), v__ = (vA #[(vB false), (vI .i64 0), v', (vS none 0 0)]) ∧ post__ = [cl zb 97 [(Value.map (some kb)), (Value.iface 183 (vQ tb)), (Value.map (some wb)), (Value.map (some ib))], mp Value.string kb KM, setsP (List.map Prod.fst [(a, x)]) S, cl tb 185 [(vQ (rt sb W)), (vI .i64 cnt), (vQ sb)], tr sb sb W, clf sb 182 [(Value.nilIface), (Value.nilIface), (Value.nilIface), (Value.nilIface), (vP none), (vP none), (vP none), (vI .i64 0)], mp pn wb (aggm [(a, x)]), mp (vI .i64) ib (idm [(a, x)])] ∧ (RS R' 1 v' (List.length [x.iD]) ([x.iD].map (vI .i64)))) := by
 refine TriG.into (n := 154) (al := [(vQ zb), (vA #[(vI .i64 o.kind), (vI .i64 o.w_ID), (Value.string o.w_Key), (Value.string o.w_End), (vB o.w_HasEnd), (vI .i64 o.w_MinRev), (Value.string x.key), (vI .i64 o.cur), (vI .i64 o.compact), o.events])]) func25 rfl ntmps25 rfl rfl fun w F H => ?_
 refine cr fun _ hK1_ => ?_
 refine S_list (T_box (v := (vA #[(vI .i64 o.kind), (vI .i64 o.w_ID), (Value.string o.w_Key), (Value.string o.w_End), (vB o.w_HasEnd), (vI .i64 o.w_MinRev), (Value.string x.key), (vI .i64 o.cur), (vI .i64 o.compact), o.events])) rfl H ?_)
 intro b2_ w3_ S5_ H4_
 have S6_ := Same.trans (Same.refl w) S5_
 refine S_list (T_alloc z42 H4_ ?_)
 intro b7_ w8_ S10_ H9_
 have S11_ := Same.trans S6_ S10_
 refine wn (hK1_ _ _ ?_)
 refine cr fun _ hK12_ => ?_
 refine sv (v := (vA #[(vB false), (vI .i64 0), (vS none 0 0), (vS none 0 0)])) (by kernel_rfl) ?_
 refine S_list (T_alloc z42 H9_ ?_)
 intro b13_ w14_ S16_ H15_
 have S17_ := Same.trans S11_ S16_
 refine S_list0 (T_storeN (vs := [(vB false), (vI .i64 0), (vS none 0 0), (vS none 0 0)]) rfl rfl z42 rfl (by simp [Value.oneCell']) H15_ 0 rfl (Nat.le_of_ble_eq_true (by rfl)) ?_)
 intro w18_ S20_ H19_
 have S21_ := Same.trans S17_ S20_
 refine wn (hK12_ _ _ ?_)
 refine C_seq (fun _ hK22_ => ?_)
 refine cr fun _ hK23_ => ?_
 refine sv (v := (vQ b2_)) (by kernel_rfl) ?_
 refine sv (v := (vI .i64 o.kind)) (x_load1 rfl underlying3 rfl ((Holds.rd H19_ 2 rfl) 0 (vI .i64 o.kind) rfl)) ?_
 refine wn (hK23_ _ _ ?_)
 refine C_block ?_
 refine cr fun _ hK24_ => ?_
 refine sv (v := (vB (decide (o.kind = 1)))) (x_bin rfl rfl rfl) ?_
 refine sv (v := (vB (decide (o.kind = 1)))) (x_assign rfl) ?_
 refine wn (hK24_ _ _ ?_)
 refine C_cond (b := decide (o.kind = 1)) rfl (fun c25_t => ?_) (fun c25_f => ?_)
 ·have c25_tp : o.kind = 1 := of_decide_eq_true c25_t
  omega
 ·have c25_fp : ¬ (o.kind = 1) := of_decide_eq_false c25_f
  refine cr fun _ hK26_ => ?_
  refine sv (v := (vB (decide (o.kind = 2)))) (x_bin rfl rfl rfl) ?_
  refine sv (v := (vB (decide (o.kind = 2)))) (x_assign rfl) ?_
  refine wn (hK26_ _ _ ?_)
  refine C_cond (b := decide (o.kind = 2)) rfl (fun c27_t => ?_) (fun c27_f => ?_)
  ·have c27_tp : o.kind = 2 := of_decide_eq_true c27_t
   omega
  ·have c27_fp : ¬ (o.kind = 2) := of_decide_eq_false c27_f
   refine cr fun _ hK28_ => ?_
   refine sv (v := (vB (decide (o.kind = 3)))) (x_bin rfl rfl rfl) ?_
   refine sv (v := (vB (decide (o.kind = 3)))) (x_assign rfl) ?_
   refine wn (hK28_ _ _ ?_)
   refine C_cond (b := decide (o.kind = 3)) rfl (fun c29_t => ?_) (fun c29_f => ?_)
   ·have c29_tp : o.kind = 3 := of_decide_eq_true c29_t
    omega
   ·have c29_fp : ¬ (o.kind = 3) := of_decide_eq_false c29_f
    refine cr fun _ hK30_ => ?_
    refine sv (v := (vB (decide (o.kind = 4)))) (x_bin rfl rfl rfl) ?_
    refine sv (v := (vB (decide (o.kind = 4)))) (x_assign rfl) ?_
    refine wn (hK30_ _ _ ?_)
    refine C_cond (b := decide (o.kind = 4)) rfl (fun c31_t => ?_) (fun c31_f => ?_)
    ·have c31_tp : o.kind = 4 := of_decide_eq_true c31_t
     refine cr fun _ hK32_ => ?_
     refine sm (vQ zb) ?_
     refine sv (v := (vP (some ⟨b2_, 6, none⟩))) (by kernel_rfl) ?_
     refine sv (v := (Value.string x.key)) (x_load1 rfl underlying9 rfl ((Holds.rd H19_ 2 rfl) 6 (Value.string x.key) rfl)) ?_
     have H34_ := ((Holds.bring (Holds.bring (Holds.bring (Holds.bring (Holds.bring (Holds.bring (Holds.bring (Holds.bring H19_ 10 rfl) 10 rfl) 10 rfl) 10 rfl) 10 rfl) 10 rfl) 10 rfl) 10 rfl) :)
     refine S_list (T_call (al := [(vQ zb), (Value.string x.key)]) (pre := [cl zb 97 [(Value.map (some kb)), (Value.iface 183 (vQ tb)), (Value.map (some wb)), (Value.map (some ib))], mp Value.string kb KM, setsP (List.map Prod.fst [(a, x)]) S, cl tb 185 [(vQ (rt sb W)), (vI .i64 cnt), (vQ sb)], tr sb sb W, clf sb 182 [(Value.nilIface), (Value.nilIface), (Value.nilIface), (Value.nilIface), (vP none), (vP none), (vP none), (vI .i64 0)], mp pn wb (aggm [(a, x)])]) rfl rfl cb46 (gzByKey R zb kb tb sb wb ib cnt KM S W a x (hG) (hcn) (hx) (hks)) H34_ ?_)
     rintro v33_ p38_ w35_ ⟨_, rfl, rfl⟩ S37_ H36_
     have S39_ := Same.trans S21_ S37_
     refine sv (v := (vP (some ⟨b13_, 2, none⟩))) (by kernel_rfl) ?_
     refine S_list0 (T_store1 (v := v33_) rfl rfl z40 (Holds.sl_one H36_ 8 rfl) H36_ 9 rfl (Nat.le_of_ble_eq_true (by rfl)) ?_)
     intro w40_ S42_ H41_
     have S43_ := Same.trans S39_ S42_
     refine wn (hK32_ _ _ ?_)
     refine C_reg ?_
     refine sv (v := (vP (some ⟨b13_, 2, none⟩))) (by kernel_rfl) ?_
     refine sv (v := v33_) (x_load1 rfl underlying40 rfl ((Holds.rd H41_ 9 rfl) 2 v33_ rfl)) ?_
     have H45_ := ((Holds.bring (Holds.bring H41_ 8 rfl) 1 rfl) :)
     refine S_list (T_call (al := [v33_]) (pre := [sl 2 1 v33_ (List.length [x.iD]) ([x.iD].map (vI .i64))]) rfl rfl cb47 (kSort1 R v33_ [x.iD] (Nat.le_refl _)) H45_ ?_)
     rintro v44_ p49_ w46_ ⟨rfl, rfl⟩ S48_ H47_
     have S50_ := Same.trans S43_ S48_
     refine wpList_nil (X_blkN (X_then (hK22_ _ _ ?_)))
     refine cr fun _ hK51_ => ?_
     refine sv (v := (vA #[(vB false), (vI .i64 0), v33_, (vS none 0 0)])) (x_loadN (vs := [(vB false), (vI .i64 0), v33_, (vS none 0 0)]) rfl underlying42 rfl z42 rfl (Rd.cells (Holds.rd H47_ 9 rfl) 0 rfl)) ?_
     refine S_list0 (T_storeN (vs := [(vB false), (vI .i64 0), v33_, (vS none 0 0)]) rfl rfl z42 rfl (List.forall_mem_cons.2 ⟨rfl, (List.forall_mem_cons.2 ⟨rfl, (List.forall_mem_cons.2 ⟨(Holds.sl_one H47_ 1 rfl), (List.forall_mem_cons.2 ⟨rfl, (fun _ h__ => by cases h__)⟩)⟩)⟩)⟩) H47_ 10 rfl (Nat.le_of_ble_eq_true (by rfl)) ?_)
     intro w52_ S54_ H53_
     have S55_ := Same.trans S50_ S54_
     refine wn (hK51_ _ _ ?_)
     refine C_ret ?_
     refine R_any (v := (vA #[(vB false), (vI .i64 0), v33_, (vS none 0 0)])) (run_results1 rfl ⟨_, rfl, load_resN underlying42 rfl z42 rfl (vs := [(vB false), (vI .i64 0), v33_, (vS none 0 0)]) (Holds.cl_cells H53_ 10 rfl 0 rfl)⟩) ?_
     obtain ⟨R56_, hs57_, ⟨R58_, ha59_, hs60_⟩, H61_⟩ := Holds.gift H53_
     have hr62_ : RS R56_ 1 v33_ (List.length [x.iD]) ([x.iD].map (vI .i64)) := (sl_RS ha59_ (Sub.rfl' _)).mono hs60_
     have H63_ := Holds.pkF H61_ [0, 0, 0, 0, 0, 0, 0, 0, 3] 3
     exact ⟨R56_, _, _, rfl, hs57_, ⟨v33_, rfl, rfl, (hr62_)⟩, S55_, H63_⟩
    ·have c31_fp : ¬ (o.kind = 4) := of_decide_eq_false c31_f
     omega
end Go.Proofs.YtlnihndjepjagaaGreat
set_option linter.unusedVariables false
set_option linter.unusedSimpArgs false
namespace Go.Proofs.YtlnihndjepjagaaGreat
open Go Go.RowKit Gw Tryz
open Go.Value renaming int → vI, bool → vB, slice → vS, pointer → vP, agg → vA, tuple → vT

theorem TriG.mono {P : Program} {f : FuncId} {args : Array Value} {R : HP} {pre : List SP} {Q Q' : HP → Value → List SP → Prop} (h : TriG P f args R pre Q) (hq : ∀ R' v l, Q R' v l → Q' R' v l) : TriG P f args R pre Q' := fun w F hh =>
  (h w F hh).mono fun _ _ ⟨R', v, post, e, s, q, sm, k⟩ => ⟨R', v, post, e, s, hq _ _ _ q, sm, k⟩
def OpC (PM : List (Nat × GW)) (o : GO) : Prop := (o.kind = 1 ∧ WProper (wOf o) ∧ o.w_End.size ≤ 2147483647) ∨ (o.kind = 3 ∧ o.key.size ≠ 0 ∧ o.key.size ≤ 1000000000000000) ∨ (o.kind = 4 ∧ ∃ a x, PM = [(a, x)] ∧ x.hasEnd = false ∧ o.key = x.key ∧ x.key.size ≤ 1000000000000000)


theorem gdo (R : HP) (zb kb tb sb wb ib : Nat) (cnt : Int) (PM : List (Nat × GW)) (KM : List (ByteArray × Value)) (S : List Nat) (W : TR) (o : GO) (hG : GSt R PM KM S W) (hcn : cnt = (List.length (ino W) : Int) ∧ (ino W).length ≤ List.length PM) (hpl : PM.length ≤ 100000) (hnd : (ids PM).Nodup) (hop : OpC PM o) (h5 : PM.length < 500) (hPP : ∀ x ∈ gws PM, WProper x) :
    TriG Tryz.prog 25 #[(vQ zb), (vA #[(vI .i64 o.kind), (vI .i64 o.w_ID), (Value.string o.w_Key), (Value.string o.w_End), (vB o.w_HasEnd), (vI .i64 o.w_MinRev), (Value.string o.key), (vI .i64 o.cur), (vI .i64 o.compact), o.events])] R [cl zb 97 [(Value.map (some kb)), (Value.iface 183 (vQ tb)), (Value.map (some wb)), (Value.map (some ib))], mp Value.string kb KM, setsP (List.map Prod.fst PM) S, cl tb 185 [(vQ (rt sb W)), (vI .i64 cnt), (vQ sb)], tr sb sb W, clf sb 182 [(Value.nilIface), (Value.nilIface), (Value.nilIface), (Value.nilIface), (vP none), (vP none), (vP none), (vI .i64 0)], mp pn wb (aggm PM), mp (vI .i64) ib (idm PM)] (fun R' v__ post__ => (v__ = (vA #[(vB false), (vI .i64 0), (vS none 0 0), (vS none 0 0)]) ∧ post__ = [cl zb 97 [(Value.map (some kb)), (Value.iface 183 (vQ tb)), (Value.map (some wb)), (Value.map (some ib))], mp Value.string kb KM, setsP (List.map Prod.fst PM) S, cl tb 185 [(vQ (rt sb W)), (vI .i64 cnt), (vQ sb)], tr sb sb W, clf sb 182 [(Value.nilIface), (Value.nilIface), (Value.nilIface), (Value.nilIface), (vP none), (vP none), (vP none), (vI .i64 0)], mp pn wb (aggm PM), mp (vI .i64) ib (idm PM)] ∧ (o.kind = 1) ∧ (∃ p ∈ PM, p.2.iD = o.w_ID)) ∨ (∃ (a : Nat) (KM' : List (ByteArray × Value)) (S' : List Nat) (W' : TR) (cnt' : Int), v__ = (vA #[(vB true), (vI .i64 0), (vS none 0 0), (vS none 0 0)]) ∧ post__ = [cl zb 97 [(Value.map (some kb)), (Value.iface 183 (vQ tb)), (Value.map (some wb)), (Value.map (some ib))], mp Value.string kb KM', setsP (List.map Prod.fst (PM ++ [(a, (wOf o))])) S', cl tb 185 [(vQ (rt sb W')), (vI .i64 cnt'), (vQ sb)], tr sb sb W', clf sb 182 [(Value.nilIface), (Value.nilIface), (Value.nilIface), (Value.nilIface), (vP none), (vP none), (vP none), (vI .i64 0)], mp pn wb (aggm (PM ++ [(a, (wOf o))])), mp (vI .i64) ib (idm (PM ++ [(a, (wOf o))]))] ∧ (o.kind = 1) ∧ (∀ p ∈ PM, p.2.iD ≠ o.w_ID) ∧ (GSt R' (PM ++ [(a, (wOf o))]) KM' S' W') ∧ (cnt' = (List.length (ino W') : Int) ∧ (ino W').length ≤ List.length (PM ++ [(a, (wOf o))]))) ∨ (v__ = (vA #[(vB (List.any (gws PM) (fun x => seesB x o.key))), (vI .i64 0), (vS none 0 0), (vS none 0 0)]) ∧ post__ = [cl zb 97 [(Value.map (some kb)), (Value.iface 183 (vQ tb)), (Value.map (some wb)), (Value.map (some ib))], mp Value.string kb KM, setsP (List.map Prod.fst PM) S, cl tb 185 [(vQ (rt sb W)), (vI .i64 cnt), (vQ sb)], tr sb sb W, clf sb 182 [(Value.nilIface), (Value.nilIface), (Value.nilIface), (Value.nilIface), (vP none), (vP none), (vP none), (vI .i64 0)], mp pn wb (aggm PM), mp (vI .i64) ib (idm PM)] ∧ (o.kind = 3)) ∨ (∃ (v' : Value) (a : Nat) (x : GW), v__ = (vA #[(vB false), (vI .i64 0), v', (vS none 0 0)]) ∧ post__ = [cl zb 97 [(Value.map (some kb)), (Value.iface 183 (vQ tb)), (Value.map (some wb)), (Value.map (some ib))], mp Value.string kb KM, setsP (List.map Prod.fst PM) S, cl tb 185 [(vQ (rt sb W)), (vI .i64 cnt), (vQ sb)], tr sb sb W, clf sb 182 [(Value.nilIface), (Value.nilIface), (Value.nilIface), (Value.nilIface), (vP none), (vP none), (vP none), (vI .i64 0)], mp pn wb (aggm PM), mp (vI .i64) ib (idm PM)] ∧ (o.kind = 4) ∧ (PM = [(a, x)]) ∧ (RS R' 1 v' (List.length [x.iD]) ([x.iD].map (vI .i64))))) := by
  rcases hop with ⟨h1, h2, h3⟩ | ⟨h1, h2, h3⟩ | ⟨h1, a, x, rfl, h2, h3, h4⟩
  · refine TriG.mono (gdAdd R zb kb tb sb wb ib cnt PM KM S W o hG hcn hpl hnd h1 h2 h5 h3) fun R' v l h => ?_
    rcases h with ⟨e1, e2, e3⟩ | ⟨a, KM', S', W', cnt', e1, e2, e3, e4, e5⟩
    · exact .inl ⟨e1, e2, h1, e3⟩
    · exact .inr (.inl ⟨a, KM', S', W', cnt', e1, e2, h1, e3, e4, e5⟩)
  · refine TriG.mono (gdHas R zb kb tb sb wb ib cnt PM KM S W o hG hcn hpl h1 h2 h3 hPP) fun R' v l h => ?_
    obtain ⟨e1, e2⟩ := h
    exact .inr (.inr (.inl ⟨e1, e2, h1⟩))
  · have hk := gdKey R zb kb tb sb wb ib cnt KM S W a x o hG hcn h2 h4 h1
    rw [← h3] at hk
    refine TriG.mono hk fun R' v l h => ?_
    obtain ⟨v', e1, e2, e3⟩ := h
    exact .inr (.inr (.inr ⟨v', a, x, e1, e2, h1, rfl, e3⟩))

/-! ### Operations played: who is in the group -/
theorem gtake {α : Type} {l : List α} {k : Nat} {x : α} (h : l[k]? = some x) : l.take (k + 1) = l.take k ++ [x] := by rw [List.take_add_one, h]; rfl
def addW (M : List GW) (w : GW) : List GW := if M.any (fun x => decide (x.iD = w.iD)) = true then M else M ++ [w]
def gMs (L : List GO) : List GW := L.foldl (fun M o => if o.kind = 1 then addW M (wOf o) else M) []
theorem gMs_snoc {L : List GO} {k : Nat} {o : GO} (h : L[k]? = some o) : gMs (L.take (k + 1)) = if o.kind = 1 then addW (gMs (L.take k)) (wOf o) else gMs (L.take k) := by
  rw [gtake h]; unfold gMs; rw [List.foldl_append]; rfl
theorem addW_dup {PM : List (Nat × GW)} {w : GW} (h : ∃ p ∈ PM, p.2.iD = w.iD) : addW (gws PM) w = gws PM := by
  unfold addW
  rw [if_pos]
  obtain ⟨p, hp, e⟩ := h
  exact List.any_eq_true.2 ⟨p.2, List.mem_map.2 ⟨p, hp, rfl⟩, decide_eq_true e⟩
theorem addW_new {PM : List (Nat × GW)} {w : GW} {a : Nat} (h : ∀ p ∈ PM, p.2.iD ≠ w.iD) : addW (gws PM) w = gws (PM ++ [(a, w)]) := by
  unfold addW
  rw [if_neg, map2_snoc]
  rw [List.any_eq_true]
  rintro ⟨x, hx, e⟩
  obtain ⟨p, hp, rfl⟩ := List.mem_map.1 hx
  exact h p hp (of_decide_eq_true e)
def OpL (L : List GO) (k : Nat) (o : GO) : Prop := (o.kind = 1 ∧ WProper (wOf o) ∧ o.w_End.size ≤ 2147483647) ∨ (o.kind = 3 ∧ o.key.size ≠ 0 ∧ o.key.size ≤ 1000000000000000) ∨ (o.kind = 4 ∧ ∃ x, gMs (L.take k) = [x] ∧ x.hasEnd = false ∧ o.key = x.key ∧ x.key.size ≤ 1000000000000000)
theorem OpL.c {L : List GO} {k : Nat} {o : GO} {PM : List (Nat × GW)} (h : OpL L k o) (hm : gws PM = gMs (L.take k)) : OpC PM o := by
  rcases h with h | h | ⟨h1, x, h2, h3⟩
  · exact .inl h
  · exact .inr (.inl h)
  · refine .inr (.inr ⟨h1, ?_⟩)
    rw [h2] at hm
    match PM, hm with
    | [(a, y)], hm =>
      have : y = x := by simpa [gws] using hm
      subst this
      exact ⟨a, y, rfl, h3⟩
def AnsG (R : HP) (M : List GW) (o : GO) (a : GA) : Prop := (o.kind = 3 → a.oK = M.any (fun x => seesB x o.key) ∧ a.n = 0 ∧ a.iDs = .slice none 0 0 ∧ a.told = .slice none 0 0) ∧ (o.kind = 4 → ∃ x, M = [x] ∧ RS R 1 a.iDs (List.length [x.iD]) ([x.iD].map (vI .i64)))
theorem AnsG.mono {R R' : HP} (s : Sub R R') {M : List GW} {o : GO} {a : GA} (h : AnsG R M o a) : AnsG R' M o a := ⟨h.1, fun h4 => by obtain ⟨x, h1, h2⟩ := h.2 h4; exact ⟨x, h1, h2.mono s⟩⟩
theorem AnsG.other {R : HP} {M : List GW} {o : GO} {a : GA} (h : o.kind = 1) : AnsG R M o a := ⟨fun h' => by omega, fun h' => by omega⟩
theorem AnsG.has {R : HP} {PM : List (Nat × GW)} {M : List GW} {o : GO} (h : o.kind = 3) (hm : gws PM = M) : AnsG R M o ⟨(gws PM).any (fun x => seesB x o.key), 0, .slice none 0 0, .slice none 0 0⟩ := ⟨fun _ => ⟨by rw [hm], rfl, rfl, rfl⟩, fun h' => by omega⟩
theorem AnsG.key {R : HP} {PM : List (Nat × GW)} {M : List GW} {o : GO} {a : Nat} {x : GW} {v t : Value} {b : Bool} {n : Int} (h : o.kind = 4) (hm : gws PM = M) (hp : PM = [(a, x)]) (hr : RS R 1 v (List.length [x.iD]) ([x.iD].map (vI .i64))) : AnsG R M o ⟨b, n, v, t⟩ :=
  ⟨fun h' => by omega, fun _ => ⟨x, by rw [← hm, hp]; rfl, hr⟩⟩
def AnsL (R : HP) (L : List GO) (A : List GA) : Prop := ∀ i o a, L[i]? = some o → A[i]? = some a → AnsG R (gMs (L.take i)) o a
theorem AnsL.snoc {R R' : HP} {L : List GO} {A : List GA} {k : Nat} {o : GO} {a : GA} (h : AnsL R L A) (s : Sub R R') (hk : A.length = k) (ho : L[k]? = some o) (ha : AnsG R' (gMs (L.take k)) o a) : AnsL R' L (A ++ [a]) := fun i o' a' h1 h2 => by
  by_cases hi : i < A.length
  · rw [List.getElem?_append_left hi] at h2
    exact (h i o' a' h1 h2).mono s
  · have hi2 : i = k := by
      have := (List.getElem?_eq_some_iff.1 h2).1
      rw [List.length_append] at this; simp at this; omega
    subst hi2
    rw [List.getElem?_append_right (by omega), hk, Nat.sub_self] at h2
    rw [ho] at h1
    cases h1
    simp at h2
    subst h2
    exact ha
theorem prop_snoc {PM : List (Nat × GW)} {a : Nat} {w : GW} (h : ∀ x ∈ gws PM, WProper x) (hw : WProper w) : ∀ x ∈ gws (PM ++ [(a, w)]), WProper x := by
  rw [map2_snoc]
  intro x hx
  rcases List.mem_append.1 hx with hx | hx
  · exact h x hx
  · rw [List.mem_singleton.1 hx]; exact hw
theorem OpL.w {L : List GO} {k : Nat} {o : GO} (h : OpL L k o) (h1 : o.kind = 1) : WProper (wOf o) := by
  rcases h with h | h | h
  · exact h.2.1
  · omega
  · omega

end Go.Proofs.YtlnihndjepjagaaGreat
set_option linter.unusedVariables false
set_option linter.unusedSimpArgs false
namespace Go.Proofs.YtlnihndjepjagaaGreat
open Go Go.RowKit Gw Tryz
open Go.Value renaming int → vI, bool → vB, slice → vS, pointer → vP, agg → vA, tuple → vT

set_option maxHeartbeats 16000000 in
theorem gGroup (R : HP) (v : Value) (L : List GO) (hL : RS R 10 v (List.length L) (L.flatMap GO.cells)) (hn : L.length ≤ 201) (hok : ∀ k o, L[k]? = some o → OpL L k o) :
    TriG Tryz.prog 12 #[v] R [] (fun R' v__ post__ => ∃ (v' : Value) (A : List GA), v__ = v' ∧ post__ = [] ∧ (RS R' 4 v' (List.length A) (A.flatMap GA.cells)) ∧ (A.length = L.length) ∧ (AnsL R' L A)) := by
 refine TriG.into (n := 23) (al := [v]) func12 rfl ntmps12 rfl rfl fun w F H => ?_
 refine cr fun _ hK1_ => ?_
 refine sv (v := (vS none 0 0)) (x_assign rfl) ?_
 refine wn (hK1_ _ _ ?_)
 refine cr fun _ hK2_ => ?_
 refine S_list (T_callW (al := []) rfl rfl cb24 (Calls.into (n := 5) func24 rfl ntmps24 rfl rfl ?_))
 refine cr fun _ hK3_ => ?_
 refine sv (v := (vP none)) (x_assign rfl) ?_
 refine wn (hK3_ _ _ ?_)
 refine cr fun _ hK4_ => ?_
 refine S_list (T_callW (al := []) rfl rfl cb39 (Calls.into (n := 5) func39 rfl ntmps39 rfl rfl ?_))
 refine cr fun _ hK5_ => ?_
 refine S_list (T_alloc z93 H ?_)
 intro b6_ w7_ S9_ H8_
 have S10_ := Same.trans (Same.refl w) S9_
 refine wn (hK5_ _ _ ?_)
 refine cr fun _ hK11_ => ?_
 refine S_list (T_makeMap Value.string H8_ ?_)
 intro b12_ w13_ S15_ H14_
 have S16_ := Same.trans S10_ S15_
 refine S_list (T_callW (al := []) rfl rfl cb63 (Calls.into (n := 10) func63 rfl ntmps63 rfl rfl ?_))
 refine cr fun _ hK17_ => ?_
 refine sv (v := (Value.nilIface)) (x_assign rfl) ?_
 refine wn (hK17_ _ _ ?_)
 refine cr fun _ hK18_ => ?_
 refine sv (v := (vA #[(Value.nilIface), (Value.nilIface), (Value.nilIface)])) (by kernel_rfl) ?_
 refine sv (v := (vA #[(Value.nilIface), (Value.nilIface), (Value.nilIface), (Value.nilIface), (vP none), (vP none), (vP none), (vI .i64 0)])) (by kernel_rfl) ?_
 refine S_list (T_boxf (v := (vA #[(Value.nilIface), (Value.nilIface), (Value.nilIface), (Value.nilIface), (vP none), (vP none), (vP none), (vI .i64 0)])) rfl H14_ ?_)
 intro b19_ w20_ S22_ H21_
 have S23_ := Same.trans S16_ S22_
 refine sv (v := (vQ b19_)) (x_assign rfl) ?_
 refine wn (hK18_ _ _ ?_)
 refine cr fun _ hK24_ => ?_
 refine sm (vQ b19_) ?_
 refine sm (vQ b19_) ?_
 refine sv (v := (vA #[(vQ b19_), (vI .i64 0), (vQ b19_)])) (by kernel_rfl) ?_
 refine S_list (T_box (v := (vA #[(vQ b19_), (vI .i64 0), (vQ b19_)])) rfl H21_ ?_)
 intro b25_ w26_ S28_ H27_
 have S29_ := Same.trans S23_ S28_
 refine sv (v := (Value.iface 183 (vQ b25_))) (by kernel_rfl) ?_
 refine sv (v := (Value.iface 183 (vQ b25_))) (x_assign rfl) ?_
 refine wn (hK24_ _ _ ?_)
 refine C_ret ?_
 refine R_any (v := (Value.iface 183 (vQ b25_))) (run_results1 rfl rfl) ⟨_, rfl, ?_⟩
 refine S_list (T_makeMap pn H27_ ?_)
 intro b30_ w31_ S33_ H32_
 have S34_ := Same.trans S29_ S33_
 refine sv (v := (vA #[(Value.map (some b12_)), (Value.iface 183 (vQ b25_)), (Value.map (some b30_))])) (by kernel_rfl) ?_
 refine S_list0 (T_storeN (vs := [(Value.map (some b12_)), (Value.iface 183 (vQ b25_)), (Value.map (some b30_))]) rfl rfl z93 rfl (by simp [Value.oneCell']) H32_ 4 rfl (Nat.le_of_ble_eq_true (by rfl)) ?_)
 intro w35_ S37_ H36_
 have S38_ := Same.trans S34_ S37_
 refine wn (hK11_ _ _ ?_)
 refine C_ret ?_
 refine R_any (v := (vA #[(Value.map (some b12_)), (Value.iface 183 (vQ b25_)), (Value.map (some b30_))])) (run_results1 rfl ⟨_, rfl, load_resN underlying93 rfl z93 rfl (vs := [(Value.map (some b12_)), (Value.iface 183 (vQ b25_)), (Value.map (some b30_))]) (Holds.cl_cells H36_ 4 rfl 0 rfl)⟩) ⟨_, rfl, ?_⟩
 refine S_list (T_makeMap (vI .i64) H36_ ?_)
 intro b39_ w40_ S42_ H41_
 have S43_ := Same.trans S38_ S42_
 refine sv (v := (vA #[(Value.map (some b12_)), (Value.iface 183 (vQ b25_)), (Value.map (some b30_)), (Value.map (some b39_))])) (by kernel_rfl) ?_
 refine S_list (T_box (v := (vA #[(Value.map (some b12_)), (Value.iface 183 (vQ b25_)), (Value.map (some b30_)), (Value.map (some b39_))])) rfl H41_ ?_)
 intro b44_ w45_ S47_ H46_
 have S48_ := Same.trans S43_ S47_
 refine sv (v := (vQ b44_)) (x_assign rfl) ?_
 refine wn (hK4_ _ _ ?_)
 refine C_ret ?_
 refine R_any (v := (vQ b44_)) (run_results1 rfl rfl) ⟨_, rfl, ?_⟩
 refine sv (v := (vQ b44_)) (x_assign rfl) ?_
 refine wn (hK2_ _ _ ?_)
 refine cr fun _ hK49_ => ?_
 refine sv (v := (vS none 0 0)) (x_assign rfl) ?_
 refine wn (hK49_ _ _ ?_)
 refine C_seq (fun _ hK50_ => ?_)
 refine cr fun _ hK51_ => ?_
 refine sv (v := (vI .i64 0)) (x_assign rfl) ?_
 refine wn (hK51_ _ _ ?_)
 refine C_block ?_
 have H52_ : Holds w45_ (tr b19_ b19_ (Tr.lf : TR) :: cl b44_ 97 [(Value.map (some b12_)), (Value.iface 183 (vQ b25_)), (Value.map (some b30_)), (Value.map (some b39_))] :: mp (vI .i64) b39_ [] :: mp pn b30_ [] :: cl b25_ 185 [(vQ b19_), (vI .i64 0), (vQ b19_)] :: clf b19_ 182 [(Value.nilIface), (Value.nilIface), (Value.nilIface), (Value.nilIface), (vP none), (vP none), (vP none), (vI .i64 0)] :: mp Value.string b12_ [] :: cl b6_ 93 [(Value.map (some b12_)), (Value.iface 183 (vQ b25_)), (Value.map (some b30_))] :: ro R :: F) := Holds.lf_tr H46_
 have H53_ : Holds w45_ (setsP (List.map Prod.fst ([] : List (Nat × GW))) ([] : List Nat) :: tr b19_ b19_ (Tr.lf : TR) :: cl b44_ 97 [(Value.map (some b12_)), (Value.iface 183 (vQ b25_)), (Value.map (some b30_)), (Value.map (some b39_))] :: mp (vI .i64) b39_ [] :: mp pn b30_ [] :: cl b25_ 185 [(vQ b19_), (vI .i64 0), (vQ b19_)] :: clf b19_ 182 [(Value.nilIface), (Value.nilIface), (Value.nilIface), (Value.nilIface), (vP none), (vP none), (vP none), (vI .i64 0)] :: mp Value.string b12_ [] :: cl b6_ 93 [(Value.map (some b12_)), (Value.iface 183 (vQ b25_)), (Value.map (some b30_))] :: ro R :: F) := Holds.sets_nil H52_
 have H54_ := H53_
 have H55_ : Holds w45_ (sl 42 4 (vS none 0 0) (List.length ([] : List GA)) (([] : List GA).flatMap GA.cells) :: setsP (List.map Prod.fst ([] : List (Nat × GW))) ([] : List Nat) :: tr b19_ b19_ (Tr.lf : TR) :: cl b44_ 97 [(Value.map (some b12_)), (Value.iface 183 (vQ b25_)), (Value.map (some b30_)), (Value.map (some b39_))] :: mp (vI .i64) b39_ (idm ([] : List (Nat × GW))) :: mp pn b30_ (aggm ([] : List (Nat × GW))) :: cl b25_ 185 [(vQ b19_), (vI .i64 0), (vQ b19_)] :: clf b19_ 182 [(Value.nilIface), (Value.nilIface), (Value.nilIface), (Value.nilIface), (vP none), (vP none), (vP none), (vI .i64 0)] :: mp Value.string b12_ [] :: cl b6_ 93 [(Value.map (some b12_)), (Value.iface 183 (vQ b25_)), (Value.map (some b30_))] :: ro R :: F) := Holds.add_nil H54_ 42 4
 have H56_ := Holds.recl H55_ 6 rfl ((lcons ((by first | rfl | omega | (simp; done) | (simp; omega)) : (vQ b19_) = (vQ (rt b19_ (Tr.lf : TR)))) rfl) : [(vQ b19_), (vI .i64 0), (vQ b19_)] = [(vQ (rt b19_ (Tr.lf : TR))), (vI .i64 0), (vQ b19_)])
 have eH57_ : mp Value.string b12_ [] = mp Value.string b12_ ([] : List (ByteArray × Value)) := by first | rfl | (congr 1 <;> first | rfl | omega | (simp; done) | (simp; omega))
 have H57_ : Holds w45_ (sl 42 4 (vS none 0 0) (List.length ([] : List GA)) (([] : List GA).flatMap GA.cells) :: setsP (List.map Prod.fst ([] : List (Nat × GW))) ([] : List Nat) :: tr b19_ b19_ (Tr.lf : TR) :: cl b44_ 97 [(Value.map (some b12_)), (Value.iface 183 (vQ b25_)), (Value.map (some b30_)), (Value.map (some b39_))] :: mp (vI .i64) b39_ (idm ([] : List (Nat × GW))) :: mp pn b30_ (aggm ([] : List (Nat × GW))) :: cl b25_ 185 [(vQ (rt b19_ (Tr.lf : TR))), (vI .i64 0), (vQ b19_)] :: clf b19_ 182 [(Value.nilIface), (Value.nilIface), (Value.nilIface), (Value.nilIface), (vP none), (vP none), (vP none), (vI .i64 0)] :: mp Value.string b12_ ([] : List (ByteArray × Value)) :: cl b6_ 93 [(Value.map (some b12_)), (Value.iface 183 (vQ b25_)), (Value.map (some b30_))] :: ro R :: F) := cast1 (P := fun c__ => Holds w45_ (sl 42 4 (vS none 0 0) (List.length ([] : List GA)) (([] : List GA).flatMap GA.cells) :: setsP (List.map Prod.fst ([] : List (Nat × GW))) ([] : List Nat) :: tr b19_ b19_ (Tr.lf : TR) :: cl b44_ 97 [(Value.map (some b12_)), (Value.iface 183 (vQ b25_)), (Value.map (some b30_)), (Value.map (some b39_))] :: mp (vI .i64) b39_ (idm ([] : List (Nat × GW))) :: mp pn b30_ (aggm ([] : List (Nat × GW))) :: cl b25_ 185 [(vQ (rt b19_ (Tr.lf : TR))), (vI .i64 0), (vQ b19_)] :: clf b19_ 182 [(Value.nilIface), (Value.nilIface), (Value.nilIface), (Value.nilIface), (vP none), (vP none), (vP none), (vI .i64 0)] :: c__ :: cl b6_ 93 [(Value.map (some b12_)), (Value.iface 183 (vQ b25_)), (Value.map (some b30_))] :: ro R :: F)) eH57_ H56_
 have H58_ := Holds.pkF H57_ [0, 0, 0, 0, 0, 0, 0, 0, 0, 1] 1
 refine C_loop (γ := HP × Nat × (List (Nat × GW)) × (List (ByteArray × Value)) × (List Nat) × TR × Int × Value × (List GA)) (fun x__ a__ w1__ => match x__ with | ⟨R1, k, PM, KM, S, W, cnt, cv, A⟩ => ∃ h : Env, a__ = mkA 23 (upd (upd (upd (upd (upd h 0 v) 2 (vS none 0 0)) 3 (vQ b44_)) 4 cv) 5 (vI .i64 (k : Int))) [] ∧ Holds w1__ (sl 42 4 cv (List.length A) (A.flatMap GA.cells) :: setsP (List.map Prod.fst PM) S :: tr b19_ b19_ W :: cl b44_ 97 [(Value.map (some b12_)), (Value.iface 183 (vQ b25_)), (Value.map (some b30_)), (Value.map (some b39_))] :: mp (vI .i64) b39_ (idm PM) :: mp pn b30_ (aggm PM) :: cl b25_ 185 [(vQ (rt b19_ W)), (vI .i64 cnt), (vQ b19_)] :: clf b19_ 182 [(Value.nilIface), (Value.nilIface), (Value.nilIface), (Value.nilIface), (vP none), (vP none), (vP none), (vI .i64 0)] :: mp Value.string b12_ KM :: ro R1 :: F) ∧ Same w w1__ ∧ (Sub R R1) ∧ (k ≤ L.length) ∧ (GSt R1 PM KM S W) ∧ (cnt = (List.length (ino W) : Int) ∧ (ino W).length ≤ List.length PM) ∧ ((ids PM).Nodup) ∧ (gws PM = gMs (L.take k)) ∧ (∀ x ∈ gws PM, WProper x) ∧ (PM.length ≤ k) ∧ (A.length = k) ∧ (AnsL R1 L A)) (fun x__ => match x__ with | ⟨R1, k, PM, KM, S, W, cnt, cv, A⟩ => L.length - k) (⟨R, 0, ([] : List (Nat × GW)), ([] : List (ByteArray × Value)), ([] : List Nat), (Tr.lf : TR), 0, (vS none 0 0), ([] : List GA)⟩) ⟨_, congrArg (fun e => mkA 23 e []) (ch (ch (ch (ch (ch rfl rfl) rfl) rfl) (rfl : (vS none 0 0) = ((vS none 0 0)))) (congrArg (vI .i64) ((by first | rfl | omega | (simp; done) | (simp; omega)) : 0 = (0 : Int)))), H58_, S48_, (Sub.rfl' _), (by first | assumption | omega | exact rfl), (GSt.nil), (⟨rfl, Nat.le_refl _⟩), (List.nodup_nil), (rfl), (fun x hx => by cases hx), (Nat.le_refl _), (rfl), (fun i o a h1 h2 => by simp at h2)⟩ ?_
 rintro ⟨R1, k, PM, KM, S, W, cnt, cv, A⟩ _ w59_ ⟨h, rfl, H60_, S61_, hsR1, hkk, hG, hcn, hnd, hMM, hPP, hpl, hAl, hA⟩
 refine C_seq (fun _ hK62_ => ?_)
 refine cr fun _ hK63_ => ?_
 refine sm (vI .i64 (k : Int)) ?_
 refine sv (v := v) (x_move rfl) ?_
 refine sv (v := (vI .i64 ((List.length L) : Int))) (x_lenRS rfl (RS.mono hL hsR1) underlying32) ?_
 refine sv (v := (vB (decide ((k : Int) < ((List.length L) : Int))))) (x_bin rfl rfl rfl) ?_
 refine wn (hK63_ _ _ ?_)
 refine C_cond (b := decide ((k : Int) < ((List.length L) : Int))) rfl (fun c64_t => ?_) (fun c64_f => ?_)
 ·have c64_tp : (k : Int) < ((List.length L) : Int) := of_decide_eq_true c64_t
  refine C_skip (X_then (hK62_ _ _ ?_))
  refine C_seq (fun _ hK65_ => ?_)
  refine C_block ?_
  refine C_reg ?_
  refine sv (v := cv) (x_move rfl) ?_
  refine sm (vQ b44_) ?_
  refine sv (v := v) (x_move rfl) ?_
  refine sm (vI .i64 (k : Int)) ?_
  obtain ⟨x66_, hx67_, hm68_⟩ := elem_at L k (by omega)
  refine sv (v := (vP (some ⟨(sb v), so v + (k * 10 + 0), none⟩))) (x_idxRS (v := v) rfl (RS.mono hL hsR1) rfl underlying32 z29 (by omega) (by omega) (by omega : _ = k) rfl) ?_
  refine sv (v := (vA #[(vI .i64 x66_.kind), (vI .i64 x66_.w_ID), (Value.string x66_.w_Key), (Value.string x66_.w_End), (vB x66_.w_HasEnd), (vI .i64 x66_.w_MinRev), (Value.string x66_.key), (vI .i64 x66_.cur), (vI .i64 x66_.compact), x66_.events])) (x_loadN (vs := [(vI .i64 x66_.kind), (vI .i64 x66_.w_ID), (Value.string x66_.w_Key), (Value.string x66_.w_End), (vB x66_.w_HasEnd), (vI .i64 x66_.w_MinRev), (Value.string x66_.key), (vI .i64 x66_.cur), (vI .i64 x66_.compact), x66_.events]) rfl underlying29 rfl z29 rfl (RC.cells (RS.rc (RS.mono hL hsR1)) (Holds.ro_at H60_ 9 rfl) (k * 10 + 0) (fm_cells GO.len hx67_ (i := 0) rfl))) ?_
  have H90_ := ((Holds.bring (Holds.bring (Holds.bring (Holds.bring (Holds.bring (Holds.bring (Holds.bring (Holds.bring (Holds.bring H60_ 4 rfl) 5 rfl) 7 rfl) 5 rfl) 7 rfl) 6 rfl) 8 rfl) 8 rfl) 9 rfl) :)
  refine S_list (T_callG (al := [(vQ b44_), (vA #[(vI .i64 x66_.kind), (vI .i64 x66_.w_ID), (Value.string x66_.w_Key), (Value.string x66_.w_End), (vB x66_.w_HasEnd), (vI .i64 x66_.w_MinRev), (Value.string x66_.key), (vI .i64 x66_.cur), (vI .i64 x66_.compact), x66_.events])]) (pre := [cl b44_ 97 [(Value.map (some b12_)), (Value.iface 183 (vQ b25_)), (Value.map (some b30_)), (Value.map (some b39_))], mp Value.string b12_ KM, setsP (List.map Prod.fst PM) S, cl b25_ 185 [(vQ (rt b19_ W)), (vI .i64 cnt), (vQ b19_)], tr b19_ b19_ W, clf b19_ 182 [(Value.nilIface), (Value.nilIface), (Value.nilIface), (Value.nilIface), (vP none), (vP none), (vP none), (vI .i64 0)], mp pn b30_ (aggm PM), mp (vI .i64) b39_ (idm PM)]) rfl rfl cb25 (gdo R1 b44_ b12_ b25_ b19_ b30_ b39_ cnt PM KM S W x66_ (hG) (hcn) (by omega) (hnd) (((hok k x66_ hx67_).c hMM)) (by omega) (hPP)) H90_ ?_)
  rintro R70_ v71_ p94_ w91_ hs69_ hq95_ S93_ H92_
  rcases hq95_ with ⟨rfl, rfl, he72_, he73_⟩ | ⟨a74_, KM75_, S76_, W77_, cnt78_, rfl, rfl, he79_, he80_, he81_, he82_⟩ | ⟨rfl, rfl, he83_⟩ | ⟨v84_, a85_, x86_, rfl, rfl, he87_, he88_, he89_⟩
  ·skip
   have S96_ := Same.trans S61_ S93_
   have hz_R_R70_ := Sub.trans' hsR1 hs69_
   refine S_list (T_new (obj := .cells #[(vB false), (vI .i64 0), (vS none 0 0), (vS none 0 0)] 42) (f := fun b__ => .slice (some ⟨b__, 0, none⟩) 1 1) (A := fun b__ => cl b__ 42 [(vB false), (vI .i64 0), (vS none 0 0), (vS none 0 0)]) (by kernel_rfl) (fun l h => h.alloc _ _) H92_ ?_)
   intro b100_ w101_ S103_ H102_
   have S104_ := Same.trans S96_ S103_
   refine S_list (T_append rfl rfl underlying37 z42 rfl (by decide) H102_ 10 rfl (Holds.cl_src H102_ 0 rfl underlying37 (by simp [Value.oneCell']) rfl) (by omega) ?_)
   intro v105_ w106_ S108_ H107_
   have S109_ := Same.trans S104_ S108_
   refine sv (v := v105_) (x_assign rfl) ?_
   refine wpList_nil (X_blkN (X_then (hK65_ _ _ ?_)))
   refine C_reg ?_
   refine sm (vI .i64 (k : Int)) ?_
   refine sv (v := (vI .i64 ((k : Int) + 1))) (x_bin rfl rfl (ib_add (IntWalk.i64_in _ (by omega)))) ?_
   refine sv (v := (vI .i64 ((k : Int) + 1))) (x_assign rfl) ?_
   refine wpList_nil (X_then ?_)
   have H110_ := Holds.resl H107_ 10 rfl (by simp [GA.cells, List.flatMap_append] : (A.flatMap GA.cells) ++ [(vB false), (vI .i64 0), (vS none 0 0), (vS none 0 0)] = (A ++ [(⟨false, 0, (vS none 0 0), (vS none 0 0)⟩ : GA)]).flatMap GA.cells) (by simp : (List.length A) + 1 = (List.length (A ++ [(⟨false, 0, (vS none 0 0), (vS none 0 0)⟩ : GA)])))
   have H111_ := Holds.pkF H110_ [10, 4, 5, 2, 6, 5, 3, 3, 2, 1] 1
   exact ⟨⟨R70_, k + 1, PM, KM, S, W, cnt, v105_, (A ++ [(⟨false, 0, (vS none 0 0), (vS none 0 0)⟩ : GA)])⟩, ⟨_, congrArg (fun e => mkA 23 e []) (ch (ch (ch (ch (ch rfl rfl) rfl) rfl) rfl) (congrArg (vI .i64) ((by first | rfl | omega | (simp; done) | (simp; omega)) : (k : Int) + 1 = ((k + 1 : Nat) : Int)))), H111_, S109_, (hz_R_R70_), (by first | assumption | omega | exact rfl), ((hG.mono hs69_)), (hcn), (hnd), (by rw [gMs_snoc hx67_, if_pos he72_, ← hMM]; exact (addW_dup (w := wOf x66_) he73_).symm), (hPP), (by omega), (by rw [List.length_append, hAl]; rfl), (hA.snoc hs69_ hAl hx67_ (AnsG.other he72_))⟩, by first | omega | (dsimp only; omega) | (simp; omega)⟩
  ·skip
   have S97_ := Same.trans S61_ S93_
   have hz_R_R70_ := Sub.trans' hsR1 hs69_
   refine S_list (T_new (obj := .cells #[(vB true), (vI .i64 0), (vS none 0 0), (vS none 0 0)] 42) (f := fun b__ => .slice (some ⟨b__, 0, none⟩) 1 1) (A := fun b__ => cl b__ 42 [(vB true), (vI .i64 0), (vS none 0 0), (vS none 0 0)]) (by kernel_rfl) (fun l h => h.alloc _ _) H92_ ?_)
   intro b112_ w113_ S115_ H114_
   have S116_ := Same.trans S97_ S115_
   refine S_list (T_append rfl rfl underlying37 z42 rfl (by decide) H114_ 10 rfl (Holds.cl_src H114_ 0 rfl underlying37 (by simp [Value.oneCell']) rfl) (by omega) ?_)
   intro v117_ w118_ S120_ H119_
   have S121_ := Same.trans S116_ S120_
   refine sv (v := v117_) (x_assign rfl) ?_
   refine wpList_nil (X_blkN (X_then (hK65_ _ _ ?_)))
   refine C_reg ?_
   refine sm (vI .i64 (k : Int)) ?_
   refine sv (v := (vI .i64 ((k : Int) + 1))) (x_bin rfl rfl (ib_add (IntWalk.i64_in _ (by omega)))) ?_
   refine sv (v := (vI .i64 ((k : Int) + 1))) (x_assign rfl) ?_
   refine wpList_nil (X_then ?_)
   have H122_ := Holds.resl H119_ 10 rfl (by simp [GA.cells, List.flatMap_append] : (A.flatMap GA.cells) ++ [(vB true), (vI .i64 0), (vS none 0 0), (vS none 0 0)] = (A ++ [(⟨true, 0, (vS none 0 0), (vS none 0 0)⟩ : GA)]).flatMap GA.cells) (by simp : (List.length A) + 1 = (List.length (A ++ [(⟨true, 0, (vS none 0 0), (vS none 0 0)⟩ : GA)])))
   have H123_ := Holds.pkF H122_ [10, 4, 5, 2, 6, 5, 3, 3, 2, 1] 1
   exact ⟨⟨R70_, k + 1, (PM ++ [(a74_, (wOf x66_))]), KM75_, S76_, W77_, cnt78_, v117_, (A ++ [(⟨true, 0, (vS none 0 0), (vS none 0 0)⟩ : GA)])⟩, ⟨_, congrArg (fun e => mkA 23 e []) (ch (ch (ch (ch (ch rfl rfl) rfl) rfl) rfl) (congrArg (vI .i64) ((by first | rfl | omega | (simp; done) | (simp; omega)) : (k : Int) + 1 = ((k + 1 : Nat) : Int)))), H123_, S121_, (hz_R_R70_), (by first | assumption | omega | exact rfl), (he81_), (he82_), (ids_snoc hnd he80_), (by rw [gMs_snoc hx67_, if_pos he79_, ← hMM]; exact (addW_new (w := wOf x66_) he80_).symm), (prop_snoc hPP ((hok k x66_ hx67_).w he79_)), (by rw [List.length_append]; simp; omega), (by rw [List.length_append, hAl]; rfl), (hA.snoc hs69_ hAl hx67_ (AnsG.other he79_))⟩, by first | omega | (dsimp only; omega) | (simp; omega)⟩
  ·skip
   have S98_ := Same.trans S61_ S93_
   have hz_R_R70_ := Sub.trans' hsR1 hs69_
   refine S_list (T_new (obj := .cells #[(vB (List.any (gws PM) (fun x => seesB x x66_.key))), (vI .i64 0), (vS none 0 0), (vS none 0 0)] 42) (f := fun b__ => .slice (some ⟨b__, 0, none⟩) 1 1) (A := fun b__ => cl b__ 42 [(vB (List.any (gws PM) (fun x => seesB x x66_.key))), (vI .i64 0), (vS none 0 0), (vS none 0 0)]) (by kernel_rfl) (fun l h => h.alloc _ _) H92_ ?_)
   intro b124_ w125_ S127_ H126_
   have S128_ := Same.trans S98_ S127_
   refine S_list (T_append rfl rfl underlying37 z42 rfl (by decide) H126_ 10 rfl (Holds.cl_src H126_ 0 rfl underlying37 (by simp [Value.oneCell']) rfl) (by omega) ?_)
   intro v129_ w130_ S132_ H131_
   have S133_ := Same.trans S128_ S132_
   refine sv (v := v129_) (x_assign rfl) ?_
   refine wpList_nil (X_blkN (X_then (hK65_ _ _ ?_)))
   refine C_reg ?_
   refine sm (vI .i64 (k : Int)) ?_
   refine sv (v := (vI .i64 ((k : Int) + 1))) (x_bin rfl rfl (ib_add (IntWalk.i64_in _ (by omega)))) ?_
   refine sv (v := (vI .i64 ((k : Int) + 1))) (x_assign rfl) ?_
   refine wpList_nil (X_then ?_)
   have H134_ := Holds.resl H131_ 10 rfl (by simp [GA.cells, List.flatMap_append] : (A.flatMap GA.cells) ++ [(vB (List.any (gws PM) (fun x => seesB x x66_.key))), (vI .i64 0), (vS none 0 0), (vS none 0 0)] = (A ++ [(⟨(List.any (gws PM) (fun x => seesB x x66_.key)), 0, (vS none 0 0), (vS none 0 0)⟩ : GA)]).flatMap GA.cells) (by simp : (List.length A) + 1 = (List.length (A ++ [(⟨(List.any (gws PM) (fun x => seesB x x66_.key)), 0, (vS none 0 0), (vS none 0 0)⟩ : GA)])))
   have H135_ := Holds.pkF H134_ [10, 4, 5, 2, 6, 5, 3, 3, 2, 1] 1
   exact ⟨⟨R70_, k + 1, PM, KM, S, W, cnt, v129_, (A ++ [(⟨(List.any (gws PM) (fun x => seesB x x66_.key)), 0, (vS none 0 0), (vS none 0 0)⟩ : GA)])⟩, ⟨_, congrArg (fun e => mkA 23 e []) (ch (ch (ch (ch (ch rfl rfl) rfl) rfl) rfl) (congrArg (vI .i64) ((by first | rfl | omega | (simp; done) | (simp; omega)) : (k : Int) + 1 = ((k + 1 : Nat) : Int)))), H135_, S133_, (hz_R_R70_), (by first | assumption | omega | exact rfl), ((hG.mono hs69_)), (hcn), (hnd), (by rw [gMs_snoc hx67_, if_neg (by omega)]; exact hMM), (hPP), (by omega), (by rw [List.length_append, hAl]; rfl), (hA.snoc hs69_ hAl hx67_ (AnsG.has he83_ hMM))⟩, by first | omega | (dsimp only; omega) | (simp; omega)⟩
  ·skip
   have S99_ := Same.trans S61_ S93_
   have hz_R_R70_ := Sub.trans' hsR1 hs69_
   refine S_list (T_new (obj := .cells #[(vB false), (vI .i64 0), v84_, (vS none 0 0)] 42) (f := fun b__ => .slice (some ⟨b__, 0, none⟩) 1 1) (A := fun b__ => cl b__ 42 [(vB false), (vI .i64 0), v84_, (vS none 0 0)]) (by kernel_rfl) (fun l h => h.alloc _ _) H92_ ?_)
   intro b136_ w137_ S139_ H138_
   have S140_ := Same.trans S99_ S139_
   refine S_list (T_append rfl rfl underlying37 z42 rfl (by decide) H138_ 10 rfl (Holds.cl_src H138_ 0 rfl underlying37 (List.forall_mem_cons.2 ⟨rfl, (List.forall_mem_cons.2 ⟨rfl, (List.forall_mem_cons.2 ⟨(RS.one he89_), (List.forall_mem_cons.2 ⟨rfl, (fun _ h__ => by cases h__)⟩)⟩)⟩)⟩) rfl) (by omega) ?_)
   intro v141_ w142_ S144_ H143_
   have S145_ := Same.trans S140_ S144_
   refine sv (v := v141_) (x_assign rfl) ?_
   refine wpList_nil (X_blkN (X_then (hK65_ _ _ ?_)))
   refine C_reg ?_
   refine sm (vI .i64 (k : Int)) ?_
   refine sv (v := (vI .i64 ((k : Int) + 1))) (x_bin rfl rfl (ib_add (IntWalk.i64_in _ (by omega)))) ?_
   refine sv (v := (vI .i64 ((k : Int) + 1))) (x_assign rfl) ?_
   refine wpList_nil (X_then ?_)
   have H146_ := Holds.resl H143_ 10 rfl (by simp [GA.cells, List.flatMap_append] : (A.flatMap GA.cells) ++ [(vB false), (vI .i64 0), v84_, (vS none 0 0)] = (A ++ [(⟨false, 0, v84_, (vS none 0 0)⟩ : GA)]).flatMap GA.cells) (by simp : (List.length A) + 1 = (List.length (A ++ [(⟨false, 0, v84_, (vS none 0 0)⟩ : GA)])))
   have H147_ := Holds.pkF H146_ [10, 4, 5, 2, 6, 5, 3, 3, 2, 1] 1
   exact ⟨⟨R70_, k + 1, PM, KM, S, W, cnt, v141_, (A ++ [(⟨false, 0, v84_, (vS none 0 0)⟩ : GA)])⟩, ⟨_, congrArg (fun e => mkA 23 e []) (ch (ch (ch (ch (ch rfl rfl) rfl) rfl) rfl) (congrArg (vI .i64) ((by first | rfl | omega | (simp; done) | (simp; omega)) : (k : Int) + 1 = ((k + 1 : Nat) : Int)))), H147_, S145_, (hz_R_R70_), (by first | assumption | omega | exact rfl), ((hG.mono hs69_)), (hcn), (hnd), (by rw [gMs_snoc hx67_, if_neg (by omega)]; exact hMM), (hPP), (by omega), (by rw [List.length_append, hAl]; rfl), (hA.snoc hs69_ hAl hx67_ (AnsG.key he87_ hMM he88_ he89_))⟩, by first | omega | (dsimp only; omega) | (simp; omega)⟩
 ·have c64_fp : ¬ ((k : Int) < ((List.length L) : Int)) := of_decide_eq_false c64_f
  refine C_exit (X_thenX (X_thenX (X_blkHit ?_)))
  refine (X_then (hK50_ _ _ ?_))
  refine cr fun _ hK148_ => ?_
  refine sv (v := cv) (x_move rfl) ?_
  refine sv (v := cv) (x_assign rfl) ?_
  refine wn (hK148_ _ _ ?_)
  refine C_ret ?_
  refine R_any (v := cv) (run_results1 rfl rfl) ?_
  have H149_ := ((Holds.bring H60_ 9 rfl) :)
  obtain ⟨R150_, hs151_, ⟨R152_, ha153_, hs154_⟩, H155_⟩ := Holds.gift H149_
  have hz_R_R150_ := Sub.trans' hsR1 hs151_
  have hr156_ : RS R150_ 4 cv (List.length A) (A.flatMap GA.cells) := (sl_RS ha153_ (Sub.rfl' _)).mono hs154_
  have H157_ := Holds.pkF H155_ [0] 8
  exact ⟨R150_, _, _, rfl, hz_R_R150_, ⟨cv, A, rfl, rfl, (hr156_), (by omega), ((fun i o a h1 h2 => (hA i o a h1 h2).mono hs151_))⟩, S61_, H157_⟩
end Go.Proofs.YtlnihndjepjagaaGreat
