/- A key's index, and operations of it. -/
import Derived.Test.YtiblemgccgbhoaaKyY0
set_option linter.unusedVariables false
set_option linter.unusedSimpArgs false
namespace Go.Proofs.Ytiblemgccgbhoaa
open Go Go.RowKit Gw

set_option maxHeartbeats 2000000 in
theorem kKey (R : HP) (key : ByteArray) (m n : Int) (v : Value) (oa : Option Addr) (ol oc : Nat) (N : List GN) (O : List KO) (B : Nat) (res : List KM) (h1 : RS R 4 v (List.length N) (N.flatMap GN.cells)) (hg1 : ∀ x ∈ N, GOk R x) (hO : RS R 7 (Value.slice oa ol oc) (List.length O) (O.flatMap KO.cells)) (hol : O.length ≤ 1000) (hbd : GBd B (N.map GN.m)) (hB : B ≤ 10000) (hrun : iRun (m, n, N.map GN.m) [] O = some res) :
    TriG Try.prog 8 #[(Value.string key), (Value.agg #[(Value.int .i64 m), (Value.int .i64 n), v]), (Value.slice oa ol oc)] R [] (fun R' v__ post__ => ∃ (av : Value) (A : List KA), v__ = (Value.tuple #[av, (Value.bool true)]) ∧ post__ = [] ∧ (RS R' 10 av (List.length A) (A.flatMap KA.cells)) ∧ (∀ x ∈ A, KOk R' x) ∧ (A.map KA.m = res)) := by
 refine TriG.into (n := 20) (al := [(Value.string key), (Value.agg #[(Value.int .i64 m), (Value.int .i64 n), v]), (Value.slice oa ol oc)]) Try.func8 rfl Try.ntmps8 rfl rfl fun w F H => ?_
 refine C_seq (fun K1_ hK1_ => ?_)
 refine C_reg ?_
 refine S_list (T_box (v := (Value.agg #[(Value.int .i64 m), (Value.int .i64 n), v])) rfl H ?_)
 intro b2_ w3_ S5_ H4_
 have S6_ := Same.trans (Same.refl w) S5_
 refine S_list (T_box (v := (Value.slice oa ol oc)) rfl H4_ ?_)
 intro b7_ w8_ S10_ H9_
 replace H9_ : Holds w8_ (cl b7_ 22 [(Value.slice oa ol oc)] :: cl b2_ 34 [(Value.int .i64 m), (Value.int .i64 n), v] :: ro R :: F) := H9_
 have S11_ := Same.trans S6_ S10_
 refine S_list (T_val (v := (Value.slice none 0 0)) (x_assign rfl) ?_)
 refine S_list (T_val (v := (Value.bool false)) (x_assign rfl) ?_)
 refine wpList_nil ?_
 refine (X_then (hK1_ _ _ ?_))
 clear hK1_
 refine C_seq (fun K12_ hK12_ => ?_)
 refine C_reg ?_
 refine S_list (T_val (v := (Value.string key)) (x_move rfl) ?_)
 refine S_list (T_s2b rfl Try.underlying9 Try.underlying57 Try.underlying5 H9_ ?_)
 intro b13_ cp14_ w15_ S17_ hc18_ H16_
 have S19_ := Same.trans S11_ S17_
 have H20_ := Holds.resl H16_ 0 rfl (byteCells_bytesV _ : byteCells key = bytesV (ints key)) rfl
 have H21_ := Holds.resl H20_ 0 rfl (rfl : bytesV (ints key) = bytesV (ints key)) ((ints_length _).symm : key.size = (List.length (ints key)))
 refine S_list (T_val (v := (Value.agg #[(Value.int .i64 m), (Value.int .i64 n), v])) (x_loadN (vs := [(Value.int .i64 m), (Value.int .i64 n), v]) rfl Try.underlying34 rfl z34 rfl (Rd.cells (Holds.rd H21_ 2 rfl) 0 rfl)) ?_)
 have H30_ := ((Holds.bring H21_ 3 rfl) :)
 refine S_list (T_callG (al := [(Value.agg #[(Value.int .i64 m), (Value.int .i64 n), v])]) (pre := []) rfl rfl cb20 (kDumpIn R m n v N h1 (hg1) (by have := hbd.of.1; omega) (hbd.l (by omega))) H30_ ?_)
 rintro R23_ v24_ p34_ w31_ hs22_ ⟨v25_, N26_, rfl, rfl, he27_, he28_, he29_⟩ S33_ H32_
 have S35_ := Same.trans S19_ S33_
 have hdl_ := map_m_len he27_
 have hda_ := map_m_all he27_ (hbd.l (show B ≤ 100000 by omega))
 refine S_list (T_callW (al := [(Value.slice (some ⟨b13_, 0, none⟩) key.size cp14_), (Value.agg #[(Value.int .i64 m), (Value.int .i64 n), v25_])]) rfl rfl cb19 (Calls.into (n := 9) (al := [(Value.slice (some ⟨b13_, 0, none⟩) key.size cp14_), (Value.agg #[(Value.int .i64 m), (Value.int .i64 n), v25_])]) Try.func19 rfl Try.ntmps19 rfl rfl ?_))
 refine C_seq (fun K36_ hK36_ => ?_)
 refine C_reg ?_
 refine S_list (T_box (v := (Value.agg #[(Value.int .i64 m), (Value.int .i64 n), v25_])) rfl H32_ ?_)
 intro b37_ w38_ S40_ H39_
 replace H39_ : Holds w38_ (cl b37_ 61 [(Value.int .i64 m), (Value.int .i64 n), v25_] :: ro R23_ :: sl 5 1 (Value.slice (some ⟨b13_, 0, none⟩) key.size cp14_) (List.length (ints key)) (bytesV (ints key)) :: cl b7_ 22 [(Value.slice oa ol oc)] :: cl b2_ 34 [(Value.int .i64 m), (Value.int .i64 n), v] :: F) := H39_
 have S41_ := Same.trans S35_ S40_
 refine S_list (T_alloc z55 H39_ ?_)
 intro b42_ w43_ S45_ H44_
 have S46_ := Same.trans S41_ S45_
 refine wpList_nil ?_
 refine (X_then (hK36_ _ _ ?_))
 clear hK36_
 refine C_seq (fun K47_ hK47_ => ?_)
 refine C_reg ?_
 refine S_list (T_val (v := (Value.slice (some ⟨b13_, 0, none⟩) key.size cp14_)) (x_move rfl) ?_)
 refine S_list (T_val (v := (Value.agg #[(Value.int .i64 m), (Value.int .i64 n), v25_])) (x_loadN (vs := [(Value.int .i64 m), (Value.int .i64 n), v25_]) rfl Try.underlying61 rfl z61 rfl (Rd.cells (Holds.rd H44_ 1 rfl) 0 rfl)) ?_)
 have H61_ := ((Holds.bring H44_ 2 rfl) :)
 refine S_list (T_callG (al := [(Value.slice (some ⟨b13_, 0, none⟩) key.size cp14_), (Value.agg #[(Value.int .i64 m), (Value.int .i64 n), v25_])]) (pre := []) rfl rfl cb32 (kZzIn R23_ (some ⟨b13_, 0, none⟩) key.size cp14_ m n v25_ N26_ he28_ (he29_) (by have := hbd.of.1; omega) (hda_)) H61_ ?_)
 rintro R49_ v50_ p65_ w62_ hs48_ ⟨kb51_, gv52_, lv53_, N054_, T55_, ll56_, rfl, rfl, he57_, he58_, he59_, he60_⟩ S64_ H63_
 replace H63_ : Holds w62_ (ro R49_ :: cl kb51_ 104 [(Value.slice (some ⟨b13_, 0, none⟩) key.size cp14_), (Value.int .i64 m), (Value.int .i64 n), gv52_] :: sl 106 4 gv52_ (List.length (N054_ ++ T55_)) ((N054_ ++ T55_).flatMap GN.cells) :: sl 58 2 lv53_ (List.length ll56_) (ll56_.flatMap RV.cells) :: cl b42_ 55 [(Value.pointer none)] :: cl b37_ 61 [(Value.int .i64 m), (Value.int .i64 n), v25_] :: sl 5 1 (Value.slice (some ⟨b13_, 0, none⟩) key.size cp14_) (List.length (ints key)) (bytesV (ints key)) :: cl b7_ 22 [(Value.slice oa ol oc)] :: cl b2_ 34 [(Value.int .i64 m), (Value.int .i64 n), v] :: F) := H63_
 have S66_ := Same.trans S46_ S64_
 have hz_R_R49_ := Sub.trans' hs22_ hs48_
 have hm3_ := he57_.trans he27_
 refine S_list (T_val (v := (Value.agg #[(Value.pointer (some ⟨kb51_, 0, none⟩))])) (by kernel_rfl) ?_)
 refine S_list0 (T_storeN (vs := [(Value.pointer (some ⟨kb51_, 0, none⟩))]) rfl rfl z55 rfl (by simp [Value.oneCell']) H63_ 4 rfl (Nat.le_of_ble_eq_true (by rfl)) ?_)
 intro w67_ S69_ H68_
 have S70_ := Same.trans S66_ S69_
 refine wpList_nil ?_
 refine (X_then (hK47_ _ _ ?_))
 clear hK47_
 refine C_ret ?_
 refine R_any (v := (Value.agg #[(Value.pointer (some ⟨kb51_, 0, none⟩))])) (run_results1 rfl ⟨_, rfl, load_resN Try.underlying55 rfl z55 rfl (vs := [(Value.pointer (some ⟨kb51_, 0, none⟩))]) (Holds.cl_cells H68_ 4 rfl 0 rfl)⟩) ⟨_, rfl, ?_⟩
 refine S_list (T_alloc z55 H68_ ?_)
 intro b71_ w72_ S74_ H73_
 have S75_ := Same.trans S70_ S74_
 refine S_list0 (T_storeN (vs := [(Value.pointer (some ⟨kb51_, 0, none⟩))]) rfl rfl z55 rfl (by simp [Value.oneCell']) H73_ 0 rfl (Nat.le_of_ble_eq_true (by rfl)) ?_)
 intro w76_ S78_ H77_
 replace H77_ : Holds w76_ (cl b71_ 55 [(Value.pointer (some ⟨kb51_, 0, none⟩))] :: ro R49_ :: cl kb51_ 104 [(Value.slice (some ⟨b13_, 0, none⟩) key.size cp14_), (Value.int .i64 m), (Value.int .i64 n), gv52_] :: sl 106 4 gv52_ (List.length (N054_ ++ T55_)) ((N054_ ++ T55_).flatMap GN.cells) :: sl 58 2 lv53_ (List.length ll56_) (ll56_.flatMap RV.cells) :: cl b42_ 55 [(Value.pointer (some ⟨kb51_, 0, none⟩))] :: cl b37_ 61 [(Value.int .i64 m), (Value.int .i64 n), v25_] :: sl 5 1 (Value.slice (some ⟨b13_, 0, none⟩) key.size cp14_) (List.length (ints key)) (bytesV (ints key)) :: cl b7_ 22 [(Value.slice oa ol oc)] :: cl b2_ 34 [(Value.int .i64 m), (Value.int .i64 n), v] :: F) := H77_
 have S79_ := Same.trans S75_ S78_
 refine wpList_nil ?_
 refine (X_then (hK12_ _ _ ?_))
 clear hK12_
 refine C_seq (fun K80_ hK80_ => ?_)
 refine C_reg ?_
 refine S_list (T_alloc z24 H77_ ?_)
 intro b81_ w82_ S84_ H83_
 have S85_ := Same.trans S79_ S84_
 refine wpList_nil ?_
 refine (X_then (hK80_ _ _ ?_))
 clear hK80_
 refine C_seq (fun K86_ hK86_ => ?_)
 refine C_reg ?_
 refine S_list (T_val (v := (Value.func (.func 22) #[] #[(Value.pointer (some ⟨b7_, 0, none⟩)), (Value.pointer (some ⟨b81_, 0, none⟩)), (Value.pointer (some ⟨b71_, 0, none⟩))])) (by kernel_rfl) ?_)
 have H87_ := Holds.recl H83_ 9 rfl ((lcons (rfl : (Value.slice oa ol oc) = ((Value.slice oa ol oc))) rfl) : [(Value.slice oa ol oc)] = [((Value.slice oa ol oc))])
 have H96_ := ((Holds.bring (Holds.bring (Holds.bring (Holds.bring (Holds.bring (Holds.bring (Holds.bring H87_ 5 rfl) 5 rfl) 5 rfl) 4 rfl) 4 rfl) 9 rfl) 6 rfl) :)
 refine S_list (T_callG (al := [(Value.func (.func 22) #[] #[(Value.pointer (some ⟨b7_, 0, none⟩)), (Value.pointer (some ⟨b81_, 0, none⟩)), (Value.pointer (some ⟨b71_, 0, none⟩))])]) (pre := [cl b7_ 22 [((Value.slice oa ol oc))], cl b81_ 24 [(Value.slice none 0 0)], cl b71_ 55 [(Value.pointer (some ⟨kb51_, 0, none⟩))], cl kb51_ 104 [(Value.slice (some ⟨b13_, 0, none⟩) key.size cp14_), (Value.int .i64 m), (Value.int .i64 n), gv52_], sl 106 4 gv52_ (List.length (N054_ ++ T55_)) ((N054_ ++ T55_).flatMap GN.cells), sl 58 2 lv53_ (List.length ll56_) (ll56_.flatMap RV.cells)]) rfl rfl cb21 (fine_retG 22 [(Value.pointer (some ⟨b7_, 0, none⟩)), (Value.pointer (some ⟨b81_, 0, none⟩)), (Value.pointer (some ⟨b71_, 0, none⟩))] R49_ [cl b7_ 22 [((Value.slice oa ol oc))], cl b81_ 24 [(Value.slice none 0 0)], cl b71_ 55 [(Value.pointer (some ⟨kb51_, 0, none⟩))], cl kb51_ 104 [(Value.slice (some ⟨b13_, 0, none⟩) key.size cp14_), (Value.int .i64 m), (Value.int .i64 n), gv52_], sl 106 4 gv52_ (List.length (N054_ ++ T55_)) ((N054_ ++ T55_).flatMap GN.cells), sl 58 2 lv53_ (List.length ll56_) (ll56_.flatMap RV.cells)] _ cb22 (kKeyLoop R49_ b7_ b81_ b71_ kb51_ (some ⟨b13_, 0, none⟩) key.size cp14_ m n gv52_ lv53_ (Value.slice oa ol oc) N054_ T55_ ll56_ O B res (RS.mono hO hz_R_R49_) (by first | assumption | omega) (he59_) (he60_) (he58_) (by rw [hm3_]; exact hbd) (by first | assumption | omega) (by rw [hm3_]; exact hrun))) H96_ ?_)
 rintro R89_ v90_ p100_ w97_ hs88_ ⟨rfl, _, ⟨av91_, A92_, rfl, rfl, he93_, he94_, he95_⟩⟩ S99_ H98_
 replace H98_ : Holds w97_ (ro R89_ :: cl b81_ 24 [av91_] :: cl b42_ 55 [(Value.pointer (some ⟨kb51_, 0, none⟩))] :: cl b37_ 61 [(Value.int .i64 m), (Value.int .i64 n), v25_] :: sl 5 1 (Value.slice (some ⟨b13_, 0, none⟩) key.size cp14_) (List.length (ints key)) (bytesV (ints key)) :: cl b2_ 34 [(Value.int .i64 m), (Value.int .i64 n), v] :: F) := H98_
 have S101_ := Same.trans S85_ S99_
 have hz_R_R89_ := Sub.trans' hz_R_R49_ hs88_
 have hz_R23__R89_ := Sub.trans' hs48_ hs88_
 refine S_list (T_val (v := (Value.bool true)) (x_assign rfl) ?_)
 refine wpList_nil ?_
 refine (X_then (hK86_ _ _ ?_))
 clear hK86_
 refine C_seq (fun K102_ hK102_ => ?_)
 refine C_reg ?_
 refine S_list (T_val (v := av91_) (x_load1 rfl Try.underlying24 rfl ((Holds.rd H98_ 1 rfl) 0 av91_ rfl)) ?_)
 refine S_list (T_val (v := (Value.bool true)) (x_move rfl) ?_)
 refine S_list (T_val (v := av91_) (x_assign rfl) ?_)
 refine S_list (T_val (v := (Value.bool true)) (x_assign rfl) ?_)
 refine wpList_nil ?_
 refine (X_then (hK102_ _ _ ?_))
 clear hK102_
 refine C_ret ?_
 refine R_any (v := (Value.tuple #[av91_, (Value.bool true)])) (run_results2 rfl rfl rfl) ?_
 have H103_ : Holds w97_ (ro R89_ :: F) := (Holds.pkF H98_ [0] 5 :)
 exact ⟨R89_, _, _, rfl, hz_R_R89_, ⟨av91_, A92_, rfl, rfl, (he93_), (he94_), (he95_)⟩, S101_, H103_⟩
end Go.Proofs.Ytiblemgccgbhoaa
