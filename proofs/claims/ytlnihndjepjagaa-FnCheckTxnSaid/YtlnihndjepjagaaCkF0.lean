/- A range as the server reads it. -/
import Derived.Test.YtlnihndjepjagaaCkE0
set_option linter.unusedVariables false
set_option linter.unusedSimpArgs false
namespace Go.Proofs.Ytlnihndjepjagaa
open Go Go.RowKit Gw

set_option maxHeartbeats 400000 in
theorem ckRangeIn (R : HP) (x : RT) :
    TriG Try.prog 42 #[(Value.agg #[(Value.int .i64 x.q.kind), (Value.string x.q.key), (Value.string x.q.end_), (Value.string x.q.value), (Value.int .i64 x.q.lease), (Value.int .i64 x.q.rev), (Value.int .i64 x.q.limit), (Value.int .i64 x.q.sortOrder), (Value.int .i64 x.q.sortTarget), (Value.int .i64 x.q.minMod), (Value.int .i64 x.q.maxMod), (Value.int .i64 x.q.minCreate), (Value.int .i64 x.q.maxCreate), (Value.bool x.q.keysOnly), (Value.bool x.q.countOnly), (Value.bool x.q.prev), (Value.bool x.q.ignoreValue), (Value.bool x.q.ignoreLease), x.q.cmps, x.q.then_, x.q.else_])] R [] (fun R' v__ post__ => ∃ (b' : Nat), v__ = (Value.pointer (some ⟨b', 0, none⟩)) ∧ post__ = [] ∧ (RngAt R' b' x)) := by
 refine TriG.into (n := 35) (al := [(Value.agg #[(Value.int .i64 x.q.kind), (Value.string x.q.key), (Value.string x.q.end_), (Value.string x.q.value), (Value.int .i64 x.q.lease), (Value.int .i64 x.q.rev), (Value.int .i64 x.q.limit), (Value.int .i64 x.q.sortOrder), (Value.int .i64 x.q.sortTarget), (Value.int .i64 x.q.minMod), (Value.int .i64 x.q.maxMod), (Value.int .i64 x.q.minCreate), (Value.int .i64 x.q.maxCreate), (Value.bool x.q.keysOnly), (Value.bool x.q.countOnly), (Value.bool x.q.prev), (Value.bool x.q.ignoreValue), (Value.bool x.q.ignoreLease), x.q.cmps, x.q.then_, x.q.else_])]) Try.func42 rfl Try.ntmps42 rfl rfl fun w F H => ?_
 refine C_seq (fun K1_ hK1_ => ?_)
 refine C_reg ?_
 refine S_list (T_box (v := (Value.agg #[(Value.int .i64 x.q.kind), (Value.string x.q.key), (Value.string x.q.end_), (Value.string x.q.value), (Value.int .i64 x.q.lease), (Value.int .i64 x.q.rev), (Value.int .i64 x.q.limit), (Value.int .i64 x.q.sortOrder), (Value.int .i64 x.q.sortTarget), (Value.int .i64 x.q.minMod), (Value.int .i64 x.q.maxMod), (Value.int .i64 x.q.minCreate), (Value.int .i64 x.q.maxCreate), (Value.bool x.q.keysOnly), (Value.bool x.q.countOnly), (Value.bool x.q.prev), (Value.bool x.q.ignoreValue), (Value.bool x.q.ignoreLease), x.q.cmps, x.q.then_, x.q.else_])) rfl H ?_)
 intro b2_ w3_ S5_ H4_
 have S6_ := Same.trans (Same.refl w) S5_
 refine S_list (T_val (v := (Value.pointer none)) (x_assign rfl) ?_)
 refine wpList_nil ?_
 refine (X_then (hK1_ _ _ ?_))
 clear hK1_
 refine C_seq (fun K7_ hK7_ => ?_)
 refine A_start (S := fun w => Rd b2_ [(Value.int .i64 x.q.kind), (Value.string x.q.key), (Value.string x.q.end_), (Value.string x.q.value), (Value.int .i64 x.q.lease), (Value.int .i64 x.q.rev), (Value.int .i64 x.q.limit), (Value.int .i64 x.q.sortOrder), (Value.int .i64 x.q.sortTarget), (Value.int .i64 x.q.minMod), (Value.int .i64 x.q.maxMod), (Value.int .i64 x.q.minCreate), (Value.int .i64 x.q.maxCreate), (Value.bool x.q.keysOnly), (Value.bool x.q.countOnly), (Value.bool x.q.prev), (Value.bool x.q.ignoreValue), (Value.bool x.q.ignoreLease), x.q.cmps, x.q.then_, x.q.else_] w ∧ Sub R (hp w)) (N := 33) foll rfl rfl ?_
 have H8_ := Holds.drew_ H4_
 have hq9_ := And.intro (Holds.rd H8_ 0 rfl) ((Holds.ro_at H8_ 1 rfl))
 refine A_tk 0 (v := (Value.pointer (some ⟨b2_, 1, none⟩))) rfl (by kernel_rfl) (fun w hS => by kernel_rfl) hq9_ ?_
 refine A_tk 1 (v := (Value.string x.q.key)) rfl (by kernel_rfl) (fun w hS => x_load1 rfl Try.underlying9 rfl (hS.1 1 (Value.string x.q.key) rfl)) hq9_ ?_
 refine A_tk 3 (v := (Value.pointer (some ⟨b2_, 2, none⟩))) rfl (by kernel_rfl) (fun w hS => by kernel_rfl) hq9_ ?_
 refine A_tk 4 (v := (Value.string x.q.end_)) rfl (by kernel_rfl) (fun w hS => x_load1 rfl Try.underlying9 rfl (hS.1 2 (Value.string x.q.end_) rfl)) hq9_ ?_
 refine A_tk 6 (v := (Value.pointer (some ⟨b2_, 6, none⟩))) rfl (by kernel_rfl) (fun w hS => by kernel_rfl) hq9_ ?_
 refine A_tk 7 (v := (Value.int .i64 x.q.limit)) rfl (by kernel_rfl) (fun w hS => x_load1 rfl Try.underlying2 rfl (hS.1 6 (Value.int .i64 x.q.limit) rfl)) hq9_ ?_
 refine A_tk 8 (v := (Value.pointer (some ⟨b2_, 5, none⟩))) rfl (by kernel_rfl) (fun w hS => by kernel_rfl) hq9_ ?_
 refine A_tk 9 (v := (Value.int .i64 x.q.rev)) rfl (by kernel_rfl) (fun w hS => x_load1 rfl Try.underlying2 rfl (hS.1 5 (Value.int .i64 x.q.rev) rfl)) hq9_ ?_
 refine A_tk 10 (v := (Value.pointer (some ⟨b2_, 7, none⟩))) rfl (by kernel_rfl) (fun w hS => by kernel_rfl) hq9_ ?_
 refine A_tk 11 (v := (Value.int .i64 x.q.sortOrder)) rfl (by kernel_rfl) (fun w hS => x_load1 rfl Try.underlying3 rfl (hS.1 7 (Value.int .i64 x.q.sortOrder) rfl)) hq9_ ?_
 refine A_tk 13 (v := (Value.pointer (some ⟨b2_, 8, none⟩))) rfl (by kernel_rfl) (fun w hS => by kernel_rfl) hq9_ ?_
 refine A_tk 14 (v := (Value.int .i64 x.q.sortTarget)) rfl (by kernel_rfl) (fun w hS => x_load1 rfl Try.underlying3 rfl (hS.1 8 (Value.int .i64 x.q.sortTarget) rfl)) hq9_ ?_
 refine A_tk 16 (v := (Value.pointer (some ⟨b2_, 15, none⟩))) rfl (by kernel_rfl) (fun w hS => by kernel_rfl) hq9_ ?_
 refine A_tk 17 (v := (Value.bool x.q.prev)) rfl (by kernel_rfl) (fun w hS => x_load1 rfl Try.underlying4 rfl (hS.1 15 (Value.bool x.q.prev) rfl)) hq9_ ?_
 refine A_tk 18 (v := (Value.pointer (some ⟨b2_, 13, none⟩))) rfl (by kernel_rfl) (fun w hS => by kernel_rfl) hq9_ ?_
 refine A_tk 19 (v := (Value.bool x.q.keysOnly)) rfl (by kernel_rfl) (fun w hS => x_load1 rfl Try.underlying4 rfl (hS.1 13 (Value.bool x.q.keysOnly) rfl)) hq9_ ?_
 refine A_tk 20 (v := (Value.pointer (some ⟨b2_, 14, none⟩))) rfl (by kernel_rfl) (fun w hS => by kernel_rfl) hq9_ ?_
 refine A_tk 21 (v := (Value.bool x.q.countOnly)) rfl (by kernel_rfl) (fun w hS => x_load1 rfl Try.underlying4 rfl (hS.1 14 (Value.bool x.q.countOnly) rfl)) hq9_ ?_
 refine A_tk 22 (v := (Value.pointer (some ⟨b2_, 9, none⟩))) rfl (by kernel_rfl) (fun w hS => by kernel_rfl) hq9_ ?_
 refine A_tk 23 (v := (Value.int .i64 x.q.minMod)) rfl (by kernel_rfl) (fun w hS => x_load1 rfl Try.underlying2 rfl (hS.1 9 (Value.int .i64 x.q.minMod) rfl)) hq9_ ?_
 refine A_tk 24 (v := (Value.pointer (some ⟨b2_, 10, none⟩))) rfl (by kernel_rfl) (fun w hS => by kernel_rfl) hq9_ ?_
 refine A_tk 25 (v := (Value.int .i64 x.q.maxMod)) rfl (by kernel_rfl) (fun w hS => x_load1 rfl Try.underlying2 rfl (hS.1 10 (Value.int .i64 x.q.maxMod) rfl)) hq9_ ?_
 refine A_tk 26 (v := (Value.pointer (some ⟨b2_, 11, none⟩))) rfl (by kernel_rfl) (fun w hS => by kernel_rfl) hq9_ ?_
 refine A_tk 27 (v := (Value.int .i64 x.q.minCreate)) rfl (by kernel_rfl) (fun w hS => x_load1 rfl Try.underlying2 rfl (hS.1 11 (Value.int .i64 x.q.minCreate) rfl)) hq9_ ?_
 refine A_tk 28 (v := (Value.pointer (some ⟨b2_, 12, none⟩))) rfl (by kernel_rfl) (fun w hS => by kernel_rfl) hq9_ ?_
 refine A_tk 29 (v := (Value.int .i64 x.q.maxCreate)) rfl (by kernel_rfl) (fun w hS => x_load1 rfl Try.underlying2 rfl (hS.1 12 (Value.int .i64 x.q.maxCreate) rfl)) hq9_ ?_
 refine A_ready (i := 2) (rs := [5]) (by kernel_rfl) ?_
 refine AllR.cons ?_ ?_
 ·skip
  refine A_op (ls' := #[true, true, true, true, true, false, true, true, true, true, true, true, false, true, true, false, true, true, true, true, true, true, true, true, true, true, true, true, true, true, false, false, false]) rfl (by kernel_rfl) (T_s2b rfl Try.underlying9 Try.underlying122 Try.underlying5 H8_ ?_)
  intro b10_ cp11_ w12_ S14_ hc15_ H13_
  have S16_ := Same.trans (Same.trans S6_ (Same.drew _)) S14_
  have H17_ := Holds.resl H13_ 0 rfl (byteCells_bytesV _ : byteCells x.q.key = bytesV (ints x.q.key)) rfl
  have H18_ := Holds.resl H17_ 0 rfl (rfl : bytesV (ints x.q.key) = bytesV (ints x.q.key)) ((ints_length _).symm : x.q.key.size = (List.length (ints x.q.key)))
  refine ⟨⟨Holds.rd H18_ 1 rfl, (Holds.ro_at H18_ 2 rfl)⟩, ?_⟩
  refine A_ready (i := 5) (rs := []) (by kernel_rfl) ?_
  refine AllR.cons ?_ AllR.nil
  have H23_ := ((Holds.bring H18_ 2 rfl) :)
  replace H23_ : Holds w12_ (ro R :: sl 5 1 (Value.slice (some ⟨b10_, 0, none⟩) x.q.key.size cp11_) (List.length (ints x.q.key)) (bytesV (ints x.q.key)) :: cl b2_ 25 [(Value.int .i64 x.q.kind), (Value.string x.q.key), (Value.string x.q.end_), (Value.string x.q.value), (Value.int .i64 x.q.lease), (Value.int .i64 x.q.rev), (Value.int .i64 x.q.limit), (Value.int .i64 x.q.sortOrder), (Value.int .i64 x.q.sortTarget), (Value.int .i64 x.q.minMod), (Value.int .i64 x.q.maxMod), (Value.int .i64 x.q.minCreate), (Value.int .i64 x.q.maxCreate), (Value.bool x.q.keysOnly), (Value.bool x.q.countOnly), (Value.bool x.q.prev), (Value.bool x.q.ignoreValue), (Value.bool x.q.ignoreLease), x.q.cmps, x.q.then_, x.q.else_] :: F) := H23_
  refine A_op (ls' := #[true, true, true, true, true, true, true, true, true, true, true, true, false, true, true, false, true, true, true, true, true, true, true, true, true, true, true, true, true, true, false, false, false]) rfl (by kernel_rfl) (T_call (al := [(Value.string x.q.end_)]) (pre := []) rfl rfl cb67 (ckBytes R x.q.end_) H23_ ?_)
  rintro v19_ p27_ w24_ ⟨a20_, m21_, c22_, rfl, rfl⟩ S26_ H25_
  have S28_ := Same.trans S16_ S26_
  refine ⟨⟨Holds.rd H25_ 2 rfl, (Holds.ro_at H25_ 0 rfl)⟩, ?_⟩
  refine A_ready (i := 12) (rs := []) (by kernel_rfl) ?_
  refine AllR.cons ?_ AllR.nil
  refine A_op (ls' := #[true, true, true, true, true, true, true, true, true, true, true, true, true, true, true, false, true, true, true, true, true, true, true, true, true, true, true, true, true, true, false, false, false]) rfl (by kernel_rfl) (T_call (al := [(Value.int .i64 x.q.sortOrder)]) (pre := []) rfl rfl cb68 (ckOrder R x.q.sortOrder) H25_ ?_)
  rintro v29_ p33_ w30_ ⟨rfl, rfl⟩ S32_ H31_
  have S34_ := Same.trans S28_ S32_
  refine ⟨⟨Holds.rd H31_ 2 rfl, (Holds.ro_at H31_ 0 rfl)⟩, ?_⟩
  refine A_ready (i := 15) (rs := []) (by kernel_rfl) ?_
  refine AllR.cons ?_ AllR.nil
  refine A_op (ls' := #[true, true, true, true, true, true, true, true, true, true, true, true, true, true, true, true, true, true, true, true, true, true, true, true, true, true, true, true, true, true, false, false, false]) rfl (by kernel_rfl) (T_call (al := [(Value.int .i64 x.q.sortTarget)]) (pre := []) rfl rfl cb68 (ckOrder R x.q.sortTarget) H31_ ?_)
  rintro v35_ p39_ w36_ ⟨rfl, rfl⟩ S38_ H37_
  replace H37_ : Holds w36_ (ro R :: sl 5 1 (Value.slice (some ⟨b10_, 0, none⟩) x.q.key.size cp11_) (List.length (ints x.q.key)) (bytesV (ints x.q.key)) :: cl b2_ 25 [(Value.int .i64 x.q.kind), (Value.string x.q.key), (Value.string x.q.end_), (Value.string x.q.value), (Value.int .i64 x.q.lease), (Value.int .i64 x.q.rev), (Value.int .i64 x.q.limit), (Value.int .i64 x.q.sortOrder), (Value.int .i64 x.q.sortTarget), (Value.int .i64 x.q.minMod), (Value.int .i64 x.q.maxMod), (Value.int .i64 x.q.minCreate), (Value.int .i64 x.q.maxCreate), (Value.bool x.q.keysOnly), (Value.bool x.q.countOnly), (Value.bool x.q.prev), (Value.bool x.q.ignoreValue), (Value.bool x.q.ignoreLease), x.q.cmps, x.q.then_, x.q.else_] :: F) := H37_
  have S40_ := Same.trans S34_ S38_
  refine ⟨⟨Holds.rd H37_ 2 rfl, (Holds.ro_at H37_ 0 rfl)⟩, ?_⟩
  have hq41_ := And.intro (Holds.rd H37_ 2 rfl) ((Holds.ro_at H37_ 0 rfl))
  refine A_tk 30 (v := (Value.agg #[(Value.slice (some ⟨b10_, 0, none⟩) x.q.key.size cp11_), (Value.slice a20_ m21_ c22_), (Value.int .i64 x.q.limit), (Value.int .i64 x.q.rev), (Value.int .i32 (ord32 x.q.sortOrder)), (Value.int .i32 (ord32 x.q.sortTarget)), (Value.bool x.q.prev), (Value.bool x.q.keysOnly), (Value.bool x.q.countOnly), (Value.int .i64 x.q.minMod), (Value.int .i64 x.q.maxMod), (Value.int .i64 x.q.minCreate), (Value.int .i64 x.q.maxCreate)])) rfl (by kernel_rfl) (fun w hS => by kernel_rfl) hq41_ ?_
  refine A_ready (i := 31) (rs := []) (by kernel_rfl) ?_
  refine AllR.cons ?_ AllR.nil
  refine A_op (ls' := #[true, true, true, true, true, true, true, true, true, true, true, true, true, true, true, true, true, true, true, true, true, true, true, true, true, true, true, true, true, true, true, true, false]) rfl (by kernel_rfl) (T_box (v := (Value.agg #[(Value.slice (some ⟨b10_, 0, none⟩) x.q.key.size cp11_), (Value.slice a20_ m21_ c22_), (Value.int .i64 x.q.limit), (Value.int .i64 x.q.rev), (Value.int .i32 (ord32 x.q.sortOrder)), (Value.int .i32 (ord32 x.q.sortTarget)), (Value.bool x.q.prev), (Value.bool x.q.keysOnly), (Value.bool x.q.countOnly), (Value.int .i64 x.q.minMod), (Value.int .i64 x.q.maxMod), (Value.int .i64 x.q.minCreate), (Value.int .i64 x.q.maxCreate)])) rfl H37_ ?_)
  intro b42_ w43_ S45_ H44_
  have S46_ := Same.trans S40_ S45_
  refine ⟨⟨Holds.rd H44_ 3 rfl, (Holds.ro_at H44_ 1 rfl)⟩, ?_⟩
  have hq47_ := And.intro (Holds.rd H44_ 3 rfl) ((Holds.ro_at H44_ 1 rfl))
  refine A_tk 32 (v := (Value.pointer (some ⟨b42_, 0, none⟩))) rfl (by kernel_rfl) (fun w hS => x_assign rfl) hq47_ ?_
  refine A_done (by kernel_rfl) ?_
  refine (X_then (hK7_ _ _ ?_))
  clear hK7_
  refine C_ret ?_
  refine R_any (v := (Value.pointer (some ⟨b42_, 0, none⟩))) (run_results1 rfl rfl) ?_
  have H48_ := ((Holds.bring (Holds.bring H44_ 2 rfl) 2 rfl) :)
  obtain ⟨R49_, hs50_, ⟨R51_, ha52_, hs53_⟩, H54_⟩ := Holds.gift H48_
  replace H54_ : Holds w43_ (ro R49_ :: cl b42_ 139 [(Value.slice (some ⟨b10_, 0, none⟩) x.q.key.size cp11_), (Value.slice a20_ m21_ c22_), (Value.int .i64 x.q.limit), (Value.int .i64 x.q.rev), (Value.int .i32 (ord32 x.q.sortOrder)), (Value.int .i32 (ord32 x.q.sortTarget)), (Value.bool x.q.prev), (Value.bool x.q.keysOnly), (Value.bool x.q.countOnly), (Value.int .i64 x.q.minMod), (Value.int .i64 x.q.maxMod), (Value.int .i64 x.q.minCreate), (Value.int .i64 x.q.maxCreate)] :: cl b2_ 25 [(Value.int .i64 x.q.kind), (Value.string x.q.key), (Value.string x.q.end_), (Value.string x.q.value), (Value.int .i64 x.q.lease), (Value.int .i64 x.q.rev), (Value.int .i64 x.q.limit), (Value.int .i64 x.q.sortOrder), (Value.int .i64 x.q.sortTarget), (Value.int .i64 x.q.minMod), (Value.int .i64 x.q.maxMod), (Value.int .i64 x.q.minCreate), (Value.int .i64 x.q.maxCreate), (Value.bool x.q.keysOnly), (Value.bool x.q.countOnly), (Value.bool x.q.prev), (Value.bool x.q.ignoreValue), (Value.bool x.q.ignoreLease), x.q.cmps, x.q.then_, x.q.else_] :: F) := H54_
  have hr55_ : RS R49_ 1 (Value.slice (some ⟨b10_, 0, none⟩) x.q.key.size cp11_) (List.length (ints x.q.key)) (bytesV (ints x.q.key)) := (sl_RS ha52_ (Sub.rfl' _)).mono hs53_
  obtain ⟨R56_, hs57_, ⟨R58_, ha59_, hs60_⟩, H61_⟩ := Holds.gift H54_
  have hz_R_R56_ := Sub.trans' hs50_ hs57_
  have hr62_ : RC R56_ b42_ 0 [(Value.slice (some ⟨b10_, 0, none⟩) x.q.key.size cp11_), (Value.slice a20_ m21_ c22_), (Value.int .i64 x.q.limit), (Value.int .i64 x.q.rev), (Value.int .i32 (ord32 x.q.sortOrder)), (Value.int .i32 (ord32 x.q.sortTarget)), (Value.bool x.q.prev), (Value.bool x.q.keysOnly), (Value.bool x.q.countOnly), (Value.int .i64 x.q.minMod), (Value.int .i64 x.q.maxMod), (Value.int .i64 x.q.minCreate), (Value.int .i64 x.q.maxCreate)] := (cl_RC ha59_ (Sub.rfl' _)).mono hs60_
  have H63_ : Holds w43_ (ro R56_ :: F) := (Holds.pkF H61_ [0] 1 :)
  exact ⟨R56_, _, _, rfl, hz_R_R56_, ⟨b42_, rfl, rfl, (⟨_, _, _, _, (RS.mono hr55_ hs57_), hr62_.take 6⟩)⟩, S46_, H63_⟩
 refine AllR.cons ?_ AllR.nil
 have H68_ := ((Holds.bring H8_ 1 rfl) :)
 refine A_op (ls' := #[true, true, false, true, true, true, true, true, true, true, true, true, false, true, true, false, true, true, true, true, true, true, true, true, true, true, true, true, true, true, false, false, false]) rfl (by kernel_rfl) (T_call (al := [(Value.string x.q.end_)]) (pre := []) rfl rfl cb67 (ckBytes R x.q.end_) H68_ ?_)
 rintro v64_ p72_ w69_ ⟨a65_, m66_, c67_, rfl, rfl⟩ S71_ H70_
 have S73_ := Same.trans (Same.trans S6_ (Same.drew _)) S71_
 refine ⟨⟨Holds.rd H70_ 1 rfl, (Holds.ro_at H70_ 0 rfl)⟩, ?_⟩
 refine A_ready (i := 2) (rs := [12]) (by kernel_rfl) ?_
 refine AllR.cons ?_ ?_
 ·skip
  refine A_op (ls' := #[true, true, true, true, true, true, true, true, true, true, true, true, false, true, true, false, true, true, true, true, true, true, true, true, true, true, true, true, true, true, false, false, false]) rfl (by kernel_rfl) (T_s2b rfl Try.underlying9 Try.underlying122 Try.underlying5 H70_ ?_)
  intro b74_ cp75_ w76_ S78_ hc79_ H77_
  have S80_ := Same.trans S73_ S78_
  have H81_ := Holds.resl H77_ 0 rfl (byteCells_bytesV _ : byteCells x.q.key = bytesV (ints x.q.key)) rfl
  have H82_ := Holds.resl H81_ 0 rfl (rfl : bytesV (ints x.q.key) = bytesV (ints x.q.key)) ((ints_length _).symm : x.q.key.size = (List.length (ints x.q.key)))
  refine ⟨⟨Holds.rd H82_ 2 rfl, (Holds.ro_at H82_ 1 rfl)⟩, ?_⟩
  refine A_ready (i := 12) (rs := []) (by kernel_rfl) ?_
  refine AllR.cons ?_ AllR.nil
  have H84_ := ((Holds.bring H82_ 1 rfl) :)
  replace H84_ : Holds w76_ (ro R :: sl 5 1 (Value.slice (some ⟨b74_, 0, none⟩) x.q.key.size cp75_) (List.length (ints x.q.key)) (bytesV (ints x.q.key)) :: cl b2_ 25 [(Value.int .i64 x.q.kind), (Value.string x.q.key), (Value.string x.q.end_), (Value.string x.q.value), (Value.int .i64 x.q.lease), (Value.int .i64 x.q.rev), (Value.int .i64 x.q.limit), (Value.int .i64 x.q.sortOrder), (Value.int .i64 x.q.sortTarget), (Value.int .i64 x.q.minMod), (Value.int .i64 x.q.maxMod), (Value.int .i64 x.q.minCreate), (Value.int .i64 x.q.maxCreate), (Value.bool x.q.keysOnly), (Value.bool x.q.countOnly), (Value.bool x.q.prev), (Value.bool x.q.ignoreValue), (Value.bool x.q.ignoreLease), x.q.cmps, x.q.then_, x.q.else_] :: F) := H84_
  refine A_op (ls' := #[true, true, true, true, true, true, true, true, true, true, true, true, true, true, true, false, true, true, true, true, true, true, true, true, true, true, true, true, true, true, false, false, false]) rfl (by kernel_rfl) (T_call (al := [(Value.int .i64 x.q.sortOrder)]) (pre := []) rfl rfl cb68 (ckOrder R x.q.sortOrder) H84_ ?_)
  rintro v83_ p88_ w85_ ⟨rfl, rfl⟩ S87_ H86_
  have S89_ := Same.trans S80_ S87_
  refine ⟨⟨Holds.rd H86_ 2 rfl, (Holds.ro_at H86_ 0 rfl)⟩, ?_⟩
  refine A_ready (i := 15) (rs := []) (by kernel_rfl) ?_
  refine AllR.cons ?_ AllR.nil
  refine A_op (ls' := #[true, true, true, true, true, true, true, true, true, true, true, true, true, true, true, true, true, true, true, true, true, true, true, true, true, true, true, true, true, true, false, false, false]) rfl (by kernel_rfl) (T_call (al := [(Value.int .i64 x.q.sortTarget)]) (pre := []) rfl rfl cb68 (ckOrder R x.q.sortTarget) H86_ ?_)
  rintro v90_ p94_ w91_ ⟨rfl, rfl⟩ S93_ H92_
  have S95_ := Same.trans S89_ S93_
  refine ⟨⟨Holds.rd H92_ 2 rfl, (Holds.ro_at H92_ 0 rfl)⟩, ?_⟩
  have hq96_ := And.intro (Holds.rd H92_ 2 rfl) ((Holds.ro_at H92_ 0 rfl))
  refine A_tk 30 (v := (Value.agg #[(Value.slice (some ⟨b74_, 0, none⟩) x.q.key.size cp75_), (Value.slice a65_ m66_ c67_), (Value.int .i64 x.q.limit), (Value.int .i64 x.q.rev), (Value.int .i32 (ord32 x.q.sortOrder)), (Value.int .i32 (ord32 x.q.sortTarget)), (Value.bool x.q.prev), (Value.bool x.q.keysOnly), (Value.bool x.q.countOnly), (Value.int .i64 x.q.minMod), (Value.int .i64 x.q.maxMod), (Value.int .i64 x.q.minCreate), (Value.int .i64 x.q.maxCreate)])) rfl (by kernel_rfl) (fun w hS => by kernel_rfl) hq96_ ?_
  refine A_ready (i := 31) (rs := []) (by kernel_rfl) ?_
  refine AllR.cons ?_ AllR.nil
  refine A_op (ls' := #[true, true, true, true, true, true, true, true, true, true, true, true, true, true, true, true, true, true, true, true, true, true, true, true, true, true, true, true, true, true, true, true, false]) rfl (by kernel_rfl) (T_box (v := (Value.agg #[(Value.slice (some ⟨b74_, 0, none⟩) x.q.key.size cp75_), (Value.slice a65_ m66_ c67_), (Value.int .i64 x.q.limit), (Value.int .i64 x.q.rev), (Value.int .i32 (ord32 x.q.sortOrder)), (Value.int .i32 (ord32 x.q.sortTarget)), (Value.bool x.q.prev), (Value.bool x.q.keysOnly), (Value.bool x.q.countOnly), (Value.int .i64 x.q.minMod), (Value.int .i64 x.q.maxMod), (Value.int .i64 x.q.minCreate), (Value.int .i64 x.q.maxCreate)])) rfl H92_ ?_)
  intro b97_ w98_ S100_ H99_
  replace H99_ : Holds w98_ (cl b97_ 139 [(Value.slice (some ⟨b74_, 0, none⟩) x.q.key.size cp75_), (Value.slice a65_ m66_ c67_), (Value.int .i64 x.q.limit), (Value.int .i64 x.q.rev), (Value.int .i32 (ord32 x.q.sortOrder)), (Value.int .i32 (ord32 x.q.sortTarget)), (Value.bool x.q.prev), (Value.bool x.q.keysOnly), (Value.bool x.q.countOnly), (Value.int .i64 x.q.minMod), (Value.int .i64 x.q.maxMod), (Value.int .i64 x.q.minCreate), (Value.int .i64 x.q.maxCreate)] :: ro R :: sl 5 1 (Value.slice (some ⟨b74_, 0, none⟩) x.q.key.size cp75_) (List.length (ints x.q.key)) (bytesV (ints x.q.key)) :: cl b2_ 25 [(Value.int .i64 x.q.kind), (Value.string x.q.key), (Value.string x.q.end_), (Value.string x.q.value), (Value.int .i64 x.q.lease), (Value.int .i64 x.q.rev), (Value.int .i64 x.q.limit), (Value.int .i64 x.q.sortOrder), (Value.int .i64 x.q.sortTarget), (Value.int .i64 x.q.minMod), (Value.int .i64 x.q.maxMod), (Value.int .i64 x.q.minCreate), (Value.int .i64 x.q.maxCreate), (Value.bool x.q.keysOnly), (Value.bool x.q.countOnly), (Value.bool x.q.prev), (Value.bool x.q.ignoreValue), (Value.bool x.q.ignoreLease), x.q.cmps, x.q.then_, x.q.else_] :: F) := H99_
  have S101_ := Same.trans S95_ S100_
  refine ⟨⟨Holds.rd H99_ 3 rfl, (Holds.ro_at H99_ 1 rfl)⟩, ?_⟩
  have hq102_ := And.intro (Holds.rd H99_ 3 rfl) ((Holds.ro_at H99_ 1 rfl))
  refine A_tk 32 (v := (Value.pointer (some ⟨b97_, 0, none⟩))) rfl (by kernel_rfl) (fun w hS => x_assign rfl) hq102_ ?_
  refine A_done (by kernel_rfl) ?_
  refine (X_then (hK7_ _ _ ?_))
  clear hK7_
  refine C_ret ?_
  refine R_any (v := (Value.pointer (some ⟨b97_, 0, none⟩))) (run_results1 rfl rfl) ?_
  have H103_ := ((Holds.bring (Holds.bring H99_ 2 rfl) 2 rfl) :)
  obtain ⟨R104_, hs105_, ⟨R106_, ha107_, hs108_⟩, H109_⟩ := Holds.gift H103_
  have hr110_ : RS R104_ 1 (Value.slice (some ⟨b74_, 0, none⟩) x.q.key.size cp75_) (List.length (ints x.q.key)) (bytesV (ints x.q.key)) := (sl_RS ha107_ (Sub.rfl' _)).mono hs108_
  obtain ⟨R111_, hs112_, ⟨R113_, ha114_, hs115_⟩, H116_⟩ := Holds.gift H109_
  replace H116_ : Holds w98_ (ro R111_ :: cl b2_ 25 [(Value.int .i64 x.q.kind), (Value.string x.q.key), (Value.string x.q.end_), (Value.string x.q.value), (Value.int .i64 x.q.lease), (Value.int .i64 x.q.rev), (Value.int .i64 x.q.limit), (Value.int .i64 x.q.sortOrder), (Value.int .i64 x.q.sortTarget), (Value.int .i64 x.q.minMod), (Value.int .i64 x.q.maxMod), (Value.int .i64 x.q.minCreate), (Value.int .i64 x.q.maxCreate), (Value.bool x.q.keysOnly), (Value.bool x.q.countOnly), (Value.bool x.q.prev), (Value.bool x.q.ignoreValue), (Value.bool x.q.ignoreLease), x.q.cmps, x.q.then_, x.q.else_] :: F) := H116_
  have hz_R_R111_ := Sub.trans' hs105_ hs112_
  have hr117_ : RC R111_ b97_ 0 [(Value.slice (some ⟨b74_, 0, none⟩) x.q.key.size cp75_), (Value.slice a65_ m66_ c67_), (Value.int .i64 x.q.limit), (Value.int .i64 x.q.rev), (Value.int .i32 (ord32 x.q.sortOrder)), (Value.int .i32 (ord32 x.q.sortTarget)), (Value.bool x.q.prev), (Value.bool x.q.keysOnly), (Value.bool x.q.countOnly), (Value.int .i64 x.q.minMod), (Value.int .i64 x.q.maxMod), (Value.int .i64 x.q.minCreate), (Value.int .i64 x.q.maxCreate)] := (cl_RC ha114_ (Sub.rfl' _)).mono hs115_
  have H118_ : Holds w98_ (ro R111_ :: F) := (Holds.pkF H116_ [0] 1 :)
  exact ⟨R111_, _, _, rfl, hz_R_R111_, ⟨b97_, rfl, rfl, (⟨_, _, _, _, (RS.mono hr110_ hs112_), hr117_.take 6⟩)⟩, S101_, H118_⟩
 refine AllR.cons ?_ AllR.nil
 refine A_op (ls' := #[true, true, false, true, true, true, true, true, true, true, true, true, true, true, true, false, true, true, true, true, true, true, true, true, true, true, true, true, true, true, false, false, false]) rfl (by kernel_rfl) (T_call (al := [(Value.int .i64 x.q.sortOrder)]) (pre := []) rfl rfl cb68 (ckOrder R x.q.sortOrder) H70_ ?_)
 rintro v119_ p123_ w120_ ⟨rfl, rfl⟩ S122_ H121_
 have S124_ := Same.trans S73_ S122_
 refine ⟨⟨Holds.rd H121_ 1 rfl, (Holds.ro_at H121_ 0 rfl)⟩, ?_⟩
 refine A_ready (i := 2) (rs := [15]) (by kernel_rfl) ?_
 refine AllR.cons ?_ ?_
 ·skip
  refine A_op (ls' := #[true, true, true, true, true, true, true, true, true, true, true, true, true, true, true, false, true, true, true, true, true, true, true, true, true, true, true, true, true, true, false, false, false]) rfl (by kernel_rfl) (T_s2b rfl Try.underlying9 Try.underlying122 Try.underlying5 H121_ ?_)
  intro b125_ cp126_ w127_ S129_ hc130_ H128_
  have S131_ := Same.trans S124_ S129_
  have H132_ := Holds.resl H128_ 0 rfl (byteCells_bytesV _ : byteCells x.q.key = bytesV (ints x.q.key)) rfl
  have H133_ := Holds.resl H132_ 0 rfl (rfl : bytesV (ints x.q.key) = bytesV (ints x.q.key)) ((ints_length _).symm : x.q.key.size = (List.length (ints x.q.key)))
  refine ⟨⟨Holds.rd H133_ 2 rfl, (Holds.ro_at H133_ 1 rfl)⟩, ?_⟩
  refine A_ready (i := 15) (rs := []) (by kernel_rfl) ?_
  refine AllR.cons ?_ AllR.nil
  have H135_ := ((Holds.bring H133_ 1 rfl) :)
  refine A_op (ls' := #[true, true, true, true, true, true, true, true, true, true, true, true, true, true, true, true, true, true, true, true, true, true, true, true, true, true, true, true, true, true, false, false, false]) rfl (by kernel_rfl) (T_call (al := [(Value.int .i64 x.q.sortTarget)]) (pre := []) rfl rfl cb68 (ckOrder R x.q.sortTarget) H135_ ?_)
  rintro v134_ p139_ w136_ ⟨rfl, rfl⟩ S138_ H137_
  replace H137_ : Holds w136_ (ro R :: sl 5 1 (Value.slice (some ⟨b125_, 0, none⟩) x.q.key.size cp126_) (List.length (ints x.q.key)) (bytesV (ints x.q.key)) :: cl b2_ 25 [(Value.int .i64 x.q.kind), (Value.string x.q.key), (Value.string x.q.end_), (Value.string x.q.value), (Value.int .i64 x.q.lease), (Value.int .i64 x.q.rev), (Value.int .i64 x.q.limit), (Value.int .i64 x.q.sortOrder), (Value.int .i64 x.q.sortTarget), (Value.int .i64 x.q.minMod), (Value.int .i64 x.q.maxMod), (Value.int .i64 x.q.minCreate), (Value.int .i64 x.q.maxCreate), (Value.bool x.q.keysOnly), (Value.bool x.q.countOnly), (Value.bool x.q.prev), (Value.bool x.q.ignoreValue), (Value.bool x.q.ignoreLease), x.q.cmps, x.q.then_, x.q.else_] :: F) := H137_
  have S140_ := Same.trans S131_ S138_
  refine ⟨⟨Holds.rd H137_ 2 rfl, (Holds.ro_at H137_ 0 rfl)⟩, ?_⟩
  have hq141_ := And.intro (Holds.rd H137_ 2 rfl) ((Holds.ro_at H137_ 0 rfl))
  refine A_tk 30 (v := (Value.agg #[(Value.slice (some ⟨b125_, 0, none⟩) x.q.key.size cp126_), (Value.slice a65_ m66_ c67_), (Value.int .i64 x.q.limit), (Value.int .i64 x.q.rev), (Value.int .i32 (ord32 x.q.sortOrder)), (Value.int .i32 (ord32 x.q.sortTarget)), (Value.bool x.q.prev), (Value.bool x.q.keysOnly), (Value.bool x.q.countOnly), (Value.int .i64 x.q.minMod), (Value.int .i64 x.q.maxMod), (Value.int .i64 x.q.minCreate), (Value.int .i64 x.q.maxCreate)])) rfl (by kernel_rfl) (fun w hS => by kernel_rfl) hq141_ ?_
  refine A_ready (i := 31) (rs := []) (by kernel_rfl) ?_
  refine AllR.cons ?_ AllR.nil
  refine A_op (ls' := #[true, true, true, true, true, true, true, true, true, true, true, true, true, true, true, true, true, true, true, true, true, true, true, true, true, true, true, true, true, true, true, true, false]) rfl (by kernel_rfl) (T_box (v := (Value.agg #[(Value.slice (some ⟨b125_, 0, none⟩) x.q.key.size cp126_), (Value.slice a65_ m66_ c67_), (Value.int .i64 x.q.limit), (Value.int .i64 x.q.rev), (Value.int .i32 (ord32 x.q.sortOrder)), (Value.int .i32 (ord32 x.q.sortTarget)), (Value.bool x.q.prev), (Value.bool x.q.keysOnly), (Value.bool x.q.countOnly), (Value.int .i64 x.q.minMod), (Value.int .i64 x.q.maxMod), (Value.int .i64 x.q.minCreate), (Value.int .i64 x.q.maxCreate)])) rfl H137_ ?_)
  intro b142_ w143_ S145_ H144_
  have S146_ := Same.trans S140_ S145_
  refine ⟨⟨Holds.rd H144_ 3 rfl, (Holds.ro_at H144_ 1 rfl)⟩, ?_⟩
  have hq147_ := And.intro (Holds.rd H144_ 3 rfl) ((Holds.ro_at H144_ 1 rfl))
  refine A_tk 32 (v := (Value.pointer (some ⟨b142_, 0, none⟩))) rfl (by kernel_rfl) (fun w hS => x_assign rfl) hq147_ ?_
  refine A_done (by kernel_rfl) ?_
  refine (X_then (hK7_ _ _ ?_))
  clear hK7_
  refine C_ret ?_
  refine R_any (v := (Value.pointer (some ⟨b142_, 0, none⟩))) (run_results1 rfl rfl) ?_
  have H148_ := ((Holds.bring (Holds.bring H144_ 2 rfl) 2 rfl) :)
  obtain ⟨R149_, hs150_, ⟨R151_, ha152_, hs153_⟩, H154_⟩ := Holds.gift H148_
  replace H154_ : Holds w143_ (ro R149_ :: cl b142_ 139 [(Value.slice (some ⟨b125_, 0, none⟩) x.q.key.size cp126_), (Value.slice a65_ m66_ c67_), (Value.int .i64 x.q.limit), (Value.int .i64 x.q.rev), (Value.int .i32 (ord32 x.q.sortOrder)), (Value.int .i32 (ord32 x.q.sortTarget)), (Value.bool x.q.prev), (Value.bool x.q.keysOnly), (Value.bool x.q.countOnly), (Value.int .i64 x.q.minMod), (Value.int .i64 x.q.maxMod), (Value.int .i64 x.q.minCreate), (Value.int .i64 x.q.maxCreate)] :: cl b2_ 25 [(Value.int .i64 x.q.kind), (Value.string x.q.key), (Value.string x.q.end_), (Value.string x.q.value), (Value.int .i64 x.q.lease), (Value.int .i64 x.q.rev), (Value.int .i64 x.q.limit), (Value.int .i64 x.q.sortOrder), (Value.int .i64 x.q.sortTarget), (Value.int .i64 x.q.minMod), (Value.int .i64 x.q.maxMod), (Value.int .i64 x.q.minCreate), (Value.int .i64 x.q.maxCreate), (Value.bool x.q.keysOnly), (Value.bool x.q.countOnly), (Value.bool x.q.prev), (Value.bool x.q.ignoreValue), (Value.bool x.q.ignoreLease), x.q.cmps, x.q.then_, x.q.else_] :: F) := H154_
  have hr155_ : RS R149_ 1 (Value.slice (some ⟨b125_, 0, none⟩) x.q.key.size cp126_) (List.length (ints x.q.key)) (bytesV (ints x.q.key)) := (sl_RS ha152_ (Sub.rfl' _)).mono hs153_
  obtain ⟨R156_, hs157_, ⟨R158_, ha159_, hs160_⟩, H161_⟩ := Holds.gift H154_
  have hz_R_R156_ := Sub.trans' hs150_ hs157_
  have hr162_ : RC R156_ b142_ 0 [(Value.slice (some ⟨b125_, 0, none⟩) x.q.key.size cp126_), (Value.slice a65_ m66_ c67_), (Value.int .i64 x.q.limit), (Value.int .i64 x.q.rev), (Value.int .i32 (ord32 x.q.sortOrder)), (Value.int .i32 (ord32 x.q.sortTarget)), (Value.bool x.q.prev), (Value.bool x.q.keysOnly), (Value.bool x.q.countOnly), (Value.int .i64 x.q.minMod), (Value.int .i64 x.q.maxMod), (Value.int .i64 x.q.minCreate), (Value.int .i64 x.q.maxCreate)] := (cl_RC ha159_ (Sub.rfl' _)).mono hs160_
  have H163_ : Holds w143_ (ro R156_ :: F) := (Holds.pkF H161_ [0] 1 :)
  exact ⟨R156_, _, _, rfl, hz_R_R156_, ⟨b142_, rfl, rfl, (⟨_, _, _, _, (RS.mono hr155_ hs157_), hr162_.take 6⟩)⟩, S146_, H163_⟩
 refine AllR.cons ?_ AllR.nil
 refine A_op (ls' := #[true, true, false, true, true, true, true, true, true, true, true, true, true, true, true, true, true, true, true, true, true, true, true, true, true, true, true, true, true, true, false, false, false]) rfl (by kernel_rfl) (T_call (al := [(Value.int .i64 x.q.sortTarget)]) (pre := []) rfl rfl cb68 (ckOrder R x.q.sortTarget) H121_ ?_)
 rintro v164_ p168_ w165_ ⟨rfl, rfl⟩ S167_ H166_
 have S169_ := Same.trans S124_ S167_
 refine ⟨⟨Holds.rd H166_ 1 rfl, (Holds.ro_at H166_ 0 rfl)⟩, ?_⟩
 refine A_ready (i := 2) (rs := []) (by kernel_rfl) ?_
 refine AllR.cons ?_ AllR.nil
 refine A_op (ls' := #[true, true, true, true, true, true, true, true, true, true, true, true, true, true, true, true, true, true, true, true, true, true, true, true, true, true, true, true, true, true, false, false, false]) rfl (by kernel_rfl) (T_s2b rfl Try.underlying9 Try.underlying122 Try.underlying5 H166_ ?_)
 intro b170_ cp171_ w172_ S174_ hc175_ H173_
 have S176_ := Same.trans S169_ S174_
 have H177_ := Holds.resl H173_ 0 rfl (byteCells_bytesV _ : byteCells x.q.key = bytesV (ints x.q.key)) rfl
 have H178_ := Holds.resl H177_ 0 rfl (rfl : bytesV (ints x.q.key) = bytesV (ints x.q.key)) ((ints_length _).symm : x.q.key.size = (List.length (ints x.q.key)))
 refine ⟨⟨Holds.rd H178_ 2 rfl, (Holds.ro_at H178_ 1 rfl)⟩, ?_⟩
 have hq179_ := And.intro (Holds.rd H178_ 2 rfl) ((Holds.ro_at H178_ 1 rfl))
 refine A_tk 30 (v := (Value.agg #[(Value.slice (some ⟨b170_, 0, none⟩) x.q.key.size cp171_), (Value.slice a65_ m66_ c67_), (Value.int .i64 x.q.limit), (Value.int .i64 x.q.rev), (Value.int .i32 (ord32 x.q.sortOrder)), (Value.int .i32 (ord32 x.q.sortTarget)), (Value.bool x.q.prev), (Value.bool x.q.keysOnly), (Value.bool x.q.countOnly), (Value.int .i64 x.q.minMod), (Value.int .i64 x.q.maxMod), (Value.int .i64 x.q.minCreate), (Value.int .i64 x.q.maxCreate)])) rfl (by kernel_rfl) (fun w hS => by kernel_rfl) hq179_ ?_
 refine A_ready (i := 31) (rs := []) (by kernel_rfl) ?_
 refine AllR.cons ?_ AllR.nil
 refine A_op (ls' := #[true, true, true, true, true, true, true, true, true, true, true, true, true, true, true, true, true, true, true, true, true, true, true, true, true, true, true, true, true, true, true, true, false]) rfl (by kernel_rfl) (T_box (v := (Value.agg #[(Value.slice (some ⟨b170_, 0, none⟩) x.q.key.size cp171_), (Value.slice a65_ m66_ c67_), (Value.int .i64 x.q.limit), (Value.int .i64 x.q.rev), (Value.int .i32 (ord32 x.q.sortOrder)), (Value.int .i32 (ord32 x.q.sortTarget)), (Value.bool x.q.prev), (Value.bool x.q.keysOnly), (Value.bool x.q.countOnly), (Value.int .i64 x.q.minMod), (Value.int .i64 x.q.maxMod), (Value.int .i64 x.q.minCreate), (Value.int .i64 x.q.maxCreate)])) rfl H178_ ?_)
 intro b180_ w181_ S183_ H182_
 have S184_ := Same.trans S176_ S183_
 refine ⟨⟨Holds.rd H182_ 3 rfl, (Holds.ro_at H182_ 2 rfl)⟩, ?_⟩
 have hq185_ := And.intro (Holds.rd H182_ 3 rfl) ((Holds.ro_at H182_ 2 rfl))
 refine A_tk 32 (v := (Value.pointer (some ⟨b180_, 0, none⟩))) rfl (by kernel_rfl) (fun w hS => x_assign rfl) hq185_ ?_
 refine A_done (by kernel_rfl) ?_
 refine (X_then (hK7_ _ _ ?_))
 clear hK7_
 refine C_ret ?_
 refine R_any (v := (Value.pointer (some ⟨b180_, 0, none⟩))) (run_results1 rfl rfl) ?_
 have H186_ := ((Holds.bring (Holds.bring H182_ 1 rfl) 2 rfl) :)
 replace H186_ : Holds w181_ (ro R :: sl 5 1 (Value.slice (some ⟨b170_, 0, none⟩) x.q.key.size cp171_) (List.length (ints x.q.key)) (bytesV (ints x.q.key)) :: cl b180_ 139 [(Value.slice (some ⟨b170_, 0, none⟩) x.q.key.size cp171_), (Value.slice a65_ m66_ c67_), (Value.int .i64 x.q.limit), (Value.int .i64 x.q.rev), (Value.int .i32 (ord32 x.q.sortOrder)), (Value.int .i32 (ord32 x.q.sortTarget)), (Value.bool x.q.prev), (Value.bool x.q.keysOnly), (Value.bool x.q.countOnly), (Value.int .i64 x.q.minMod), (Value.int .i64 x.q.maxMod), (Value.int .i64 x.q.minCreate), (Value.int .i64 x.q.maxCreate)] :: cl b2_ 25 [(Value.int .i64 x.q.kind), (Value.string x.q.key), (Value.string x.q.end_), (Value.string x.q.value), (Value.int .i64 x.q.lease), (Value.int .i64 x.q.rev), (Value.int .i64 x.q.limit), (Value.int .i64 x.q.sortOrder), (Value.int .i64 x.q.sortTarget), (Value.int .i64 x.q.minMod), (Value.int .i64 x.q.maxMod), (Value.int .i64 x.q.minCreate), (Value.int .i64 x.q.maxCreate), (Value.bool x.q.keysOnly), (Value.bool x.q.countOnly), (Value.bool x.q.prev), (Value.bool x.q.ignoreValue), (Value.bool x.q.ignoreLease), x.q.cmps, x.q.then_, x.q.else_] :: F) := H186_
 obtain ⟨R187_, hs188_, ⟨R189_, ha190_, hs191_⟩, H192_⟩ := Holds.gift H186_
 have hr193_ : RS R187_ 1 (Value.slice (some ⟨b170_, 0, none⟩) x.q.key.size cp171_) (List.length (ints x.q.key)) (bytesV (ints x.q.key)) := (sl_RS ha190_ (Sub.rfl' _)).mono hs191_
 obtain ⟨R194_, hs195_, ⟨R196_, ha197_, hs198_⟩, H199_⟩ := Holds.gift H192_
 have hz_R_R194_ := Sub.trans' hs188_ hs195_
 have hr200_ : RC R194_ b180_ 0 [(Value.slice (some ⟨b170_, 0, none⟩) x.q.key.size cp171_), (Value.slice a65_ m66_ c67_), (Value.int .i64 x.q.limit), (Value.int .i64 x.q.rev), (Value.int .i32 (ord32 x.q.sortOrder)), (Value.int .i32 (ord32 x.q.sortTarget)), (Value.bool x.q.prev), (Value.bool x.q.keysOnly), (Value.bool x.q.countOnly), (Value.int .i64 x.q.minMod), (Value.int .i64 x.q.maxMod), (Value.int .i64 x.q.minCreate), (Value.int .i64 x.q.maxCreate)] := (cl_RC ha197_ (Sub.rfl' _)).mono hs198_
 have H201_ : Holds w181_ (ro R194_ :: F) := (Holds.pkF H199_ [0] 1 :)
 exact ⟨R194_, _, _, rfl, hz_R_R194_, ⟨b180_, rfl, rfl, (⟨_, _, _, _, (RS.mono hr193_ hs195_), hr200_.take 6⟩)⟩, S184_, H201_⟩
end Go.Proofs.Ytlnihndjepjagaa
