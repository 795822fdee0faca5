/- What a queue of leases and its map come to. -/
import Derived.Test.YtgeggiebefonhaaQuJ
set_option linter.unusedVariables false
set_option linter.unusedSimpArgs false
namespace Go.Proofs.Ytgeggiebefonhaa
open Go Go.RowKit Gw

set_option maxHeartbeats 400000 in
theorem qRegNew (R : HP) (nb mb : Nat) (v : Value) (q : List Nd) (m : List (Int × Value)) (b : Nat) (id t k : Int) (hq : QI q m) (hn : q.length ≤ 80000) (hm : mget m id = none) :
    Tri Try.prog 31 #[(Value.pointer (some ⟨nb, 0, none⟩)), (Value.pointer (some ⟨b, 0, none⟩))] R [cl nb 135 [(Value.map (some mb)), v], sl 77 1 v (List.length q) (ptrs q), fam 137 (encs q), mp (Value.int .i64) mb m, cl b 137 [(Value.int .i64 id), (Value.int .i64 (t / 1000000000)), (Value.int .i64 (t % 1000000000)), (Value.bool true), (Value.int .i64 k)]] (fun v__ post__ => ∃ (v' : Value) (q' : List Nd) (m' : List (Int × Value)), v__ = (Value.tuple #[]) ∧ post__ = [cl nb 135 [(Value.map (some mb)), v'], sl 77 1 v' (List.length q') (ptrs q'), fam 137 (encs q'), mp (Value.int .i64) mb m'] ∧ (QI q' m') ∧ ((dd q').Perm (dput (dd q) id t))) := by
  refine Tri.into (n := 51) (al := [(Value.pointer (some ⟨nb, 0, none⟩)), (Value.pointer (some ⟨b, 0, none⟩))]) Try.func31 rfl Try.ntmps31 rfl rfl fun w F H => ?_
  replace H : Holds w (ro R :: cl nb 135 [(Value.map (some mb)), v] :: sl 77 1 v (List.length q) (ptrs q) :: fam 137 (encs q) :: mp (Value.int .i64) mb m :: cl b 137 [(Value.int .i64 id), (Value.int .i64 (t / 1000000000)), (Value.int .i64 (t % 1000000000)), (Value.bool true), (Value.int .i64 k)] :: F) := H
  refine C_seq (fun K1_ hK1_ => ?_)
  refine A_start (S := fun w => Rd nb [(Value.map (some mb)), v] w ∧ SlRd v (ptrs q) w ∧ FamRd (encs q) w ∧ MpRd (Value.int .i64) mb m w ∧ Rd b [(Value.int .i64 id), (Value.int .i64 (t / 1000000000)), (Value.int .i64 (t % 1000000000)), (Value.bool true), (Value.int .i64 k)] w ∧ Sub R (hp w)) (N := 14) foll rfl rfl ?_
  have H2_ : Holds w.drew (ro R :: cl nb 135 [(Value.map (some mb)), v] :: sl 77 1 v (List.length q) (ptrs q) :: fam 137 (encs q) :: mp (Value.int .i64) mb m :: cl b 137 [(Value.int .i64 id), (Value.int .i64 (t / 1000000000)), (Value.int .i64 (t % 1000000000)), (Value.bool true), (Value.int .i64 k)] :: F) := H
  refine A_take 0 (ls' := #[true, false, false, false, false, false, false, false, false, false, false, false, false, false]) (v := (Value.pointer (some ⟨nb, 0, none⟩))) rfl (by kernel_rfl) (by kernel_rfl) (by kernel_rfl) (by kernel_rfl) (fun _ _ _ h => h) (fun w hS => x_move rfl) ⟨Holds.rd H2_ 1 rfl, Holds.slrd H2_ 2 rfl, Holds.famrd H2_ 3 rfl, Holds.mprd H2_ 4 rfl, Holds.rd H2_ 5 rfl, (Holds.ro_at H2_ 0 rfl)⟩ ?_
  refine A_take 1 (ls' := #[true, true, false, false, false, false, false, false, false, false, false, false, false, false]) (v := (Value.pointer (some ⟨nb, 0, none⟩))) rfl (by kernel_rfl) (by kernel_rfl) (by kernel_rfl) (by kernel_rfl) (fun _ _ _ h => h) (fun w hS => by kernel_rfl) ⟨Holds.rd H2_ 1 rfl, Holds.slrd H2_ 2 rfl, Holds.famrd H2_ 3 rfl, Holds.mprd H2_ 4 rfl, Holds.rd H2_ 5 rfl, (Holds.ro_at H2_ 0 rfl)⟩ ?_
  refine A_take 2 (ls' := #[true, true, true, false, false, false, false, false, false, false, false, false, false, false]) (v := (Value.pointer (some ⟨nb, 0, none⟩))) rfl (by kernel_rfl) (by kernel_rfl) (by kernel_rfl) (by kernel_rfl) (fun _ _ _ h => h) (fun w hS => by kernel_rfl) ⟨Holds.rd H2_ 1 rfl, Holds.slrd H2_ 2 rfl, Holds.famrd H2_ 3 rfl, Holds.mprd H2_ 4 rfl, Holds.rd H2_ 5 rfl, (Holds.ro_at H2_ 0 rfl)⟩ ?_
  refine A_take 3 (ls' := #[true, true, true, true, false, false, false, false, false, false, false, false, false, false]) (v := (Value.map (some mb))) rfl (by kernel_rfl) (by kernel_rfl) (by kernel_rfl) (by kernel_rfl) (fun _ _ _ h => h) (fun w hS => x_load1 rfl Try.underlying131 rfl (hS.1 0 (Value.map (some mb)) rfl)) ⟨Holds.rd H2_ 1 rfl, Holds.slrd H2_ 2 rfl, Holds.famrd H2_ 3 rfl, Holds.mprd H2_ 4 rfl, Holds.rd H2_ 5 rfl, (Holds.ro_at H2_ 0 rfl)⟩ ?_
  refine A_take 4 (ls' := #[true, true, true, true, true, false, false, false, false, false, false, false, false, false]) (v := (Value.pointer (some ⟨b, 0, none⟩))) rfl (by kernel_rfl) (by kernel_rfl) (by kernel_rfl) (by kernel_rfl) (fun _ _ _ h => h) (fun w hS => x_move rfl) ⟨Holds.rd H2_ 1 rfl, Holds.slrd H2_ 2 rfl, Holds.famrd H2_ 3 rfl, Holds.mprd H2_ 4 rfl, Holds.rd H2_ 5 rfl, (Holds.ro_at H2_ 0 rfl)⟩ ?_
  refine A_take 5 (ls' := #[true, true, true, true, true, true, false, false, false, false, false, false, false, false]) (v := (Value.pointer (some ⟨b, 0, none⟩))) rfl (by kernel_rfl) (by kernel_rfl) (by kernel_rfl) (by kernel_rfl) (fun _ _ _ h => h) (fun w hS => by kernel_rfl) ⟨Holds.rd H2_ 1 rfl, Holds.slrd H2_ 2 rfl, Holds.famrd H2_ 3 rfl, Holds.mprd H2_ 4 rfl, Holds.rd H2_ 5 rfl, (Holds.ro_at H2_ 0 rfl)⟩ ?_
  refine A_take 6 (ls' := #[true, true, true, true, true, true, true, false, false, false, false, false, false, false]) (v := (Value.pointer (some ⟨b, 0, none⟩))) rfl (by kernel_rfl) (by kernel_rfl) (by kernel_rfl) (by kernel_rfl) (fun _ _ _ h => h) (fun w hS => by kernel_rfl) ⟨Holds.rd H2_ 1 rfl, Holds.slrd H2_ 2 rfl, Holds.famrd H2_ 3 rfl, Holds.mprd H2_ 4 rfl, Holds.rd H2_ 5 rfl, (Holds.ro_at H2_ 0 rfl)⟩ ?_
  refine A_take 7 (ls' := #[true, true, true, true, true, true, true, true, false, false, false, false, false, false]) (v := (Value.int .i64 id)) rfl (by kernel_rfl) (by kernel_rfl) (by kernel_rfl) (by kernel_rfl) (fun _ _ _ h => h) (fun w hS => x_load1 rfl Try.underlying79 rfl (hS.2.2.2.2.1 0 (Value.int .i64 id) rfl)) ⟨Holds.rd H2_ 1 rfl, Holds.slrd H2_ 2 rfl, Holds.famrd H2_ 3 rfl, Holds.mprd H2_ 4 rfl, Holds.rd H2_ 5 rfl, (Holds.ro_at H2_ 0 rfl)⟩ ?_
  refine A_take 8 (ls' := #[true, true, true, true, true, true, true, true, true, false, false, false, false, false]) (v := (Value.tuple #[(Value.pointer none), (Value.bool false)])) rfl (by kernel_rfl) (by kernel_rfl) (by kernel_rfl) (by kernel_rfl) (fun _ _ _ h => h) (fun w hS => x_lookup (K := (Value.int .i64)) (a := id) (m := m) rfl rfl (KeyKind.int Try.underlying79) Try.underlying131 z77 hS.2.2.2.1 (by rw [hm]; rfl)) ⟨Holds.rd H2_ 1 rfl, Holds.slrd H2_ 2 rfl, Holds.famrd H2_ 3 rfl, Holds.mprd H2_ 4 rfl, Holds.rd H2_ 5 rfl, (Holds.ro_at H2_ 0 rfl)⟩ ?_
  refine A_take 9 (ls' := #[true, true, true, true, true, true, true, true, true, true, false, false, false, false]) (v := (Value.tuple #[(Value.pointer none), (Value.bool false)])) rfl (by kernel_rfl) (by kernel_rfl) (by kernel_rfl) (by kernel_rfl) (fun _ _ _ h => h) (fun w hS => x_move rfl) ⟨Holds.rd H2_ 1 rfl, Holds.slrd H2_ 2 rfl, Holds.famrd H2_ 3 rfl, Holds.mprd H2_ 4 rfl, Holds.rd H2_ 5 rfl, (Holds.ro_at H2_ 0 rfl)⟩ ?_
  refine A_take 10 (ls' := #[true, true, true, true, true, true, true, true, true, true, true, false, false, false]) (v := (Value.pointer none)) rfl (by kernel_rfl) (by kernel_rfl) (by kernel_rfl) (by kernel_rfl) (fun _ _ _ h => h) (fun w hS => by kernel_rfl) ⟨Holds.rd H2_ 1 rfl, Holds.slrd H2_ 2 rfl, Holds.famrd H2_ 3 rfl, Holds.mprd H2_ 4 rfl, Holds.rd H2_ 5 rfl, (Holds.ro_at H2_ 0 rfl)⟩ ?_
  refine A_take 11 (ls' := #[true, true, true, true, true, true, true, true, true, true, true, true, false, false]) (v := (Value.bool false)) rfl (by kernel_rfl) (by kernel_rfl) (by kernel_rfl) (by kernel_rfl) (fun _ _ _ h => h) (fun w hS => by kernel_rfl) ⟨Holds.rd H2_ 1 rfl, Holds.slrd H2_ 2 rfl, Holds.famrd H2_ 3 rfl, Holds.mprd H2_ 4 rfl, Holds.rd H2_ 5 rfl, (Holds.ro_at H2_ 0 rfl)⟩ ?_
  refine A_take 12 (ls' := #[true, true, true, true, true, true, true, true, true, true, true, true, true, false]) (v := (Value.pointer none)) rfl (by kernel_rfl) (by kernel_rfl) (by kernel_rfl) (by kernel_rfl) (fun _ _ _ h => h) (fun w hS => x_assign rfl) ⟨Holds.rd H2_ 1 rfl, Holds.slrd H2_ 2 rfl, Holds.famrd H2_ 3 rfl, Holds.mprd H2_ 4 rfl, Holds.rd H2_ 5 rfl, (Holds.ro_at H2_ 0 rfl)⟩ ?_
  refine A_take 13 (ls' := #[true, true, true, true, true, true, true, true, true, true, true, true, true, true]) (v := (Value.bool false)) rfl (by kernel_rfl) (by kernel_rfl) (by kernel_rfl) (by kernel_rfl) (fun _ _ _ h => h) (fun w hS => x_assign rfl) ⟨Holds.rd H2_ 1 rfl, Holds.slrd H2_ 2 rfl, Holds.famrd H2_ 3 rfl, Holds.mprd H2_ 4 rfl, Holds.rd H2_ 5 rfl, (Holds.ro_at H2_ 0 rfl)⟩ ?_
  refine A_done (by kernel_rfl) ?_
  refine (X_then (hK1_ _ _ ?_))
  clear hK1_
  refine C_seq (fun K3_ hK3_ => ?_)
  refine C_reg ?_
  refine S_list (T_val (v := (Value.bool false)) (x_move rfl) ?_)
  refine wpList_nil ?_
  refine (X_then (hK3_ _ _ ?_))
  clear hK3_
  refine C_condF rfl ?_
  refine C_seq (fun K4_ hK4_ => ?_)
  refine C_reg ?_
  refine S_list (T_val (v := (Value.pointer (some ⟨nb, 0, none⟩))) (x_move rfl) ?_)
  refine S_list (T_val (v := (Value.pointer (some ⟨nb, 0, none⟩))) (by kernel_rfl) ?_)
  refine S_list (T_val (v := (Value.pointer (some ⟨nb, 1, none⟩))) (by kernel_rfl) ?_)
  refine S_list (T_val (v := (Value.iface 139 (Value.pointer (some ⟨nb, 1, none⟩)))) (by kernel_rfl) ?_)
  refine S_list (T_val (v := (Value.pointer (some ⟨b, 0, none⟩))) (x_move rfl) ?_)
  refine S_list (T_val (v := (Value.iface 77 (Value.pointer (some ⟨b, 0, none⟩)))) (by kernel_rfl) ?_)
  have H10_ : Holds w.drew (ro R :: cl nb 135 [(Value.map (some mb)), v] :: sl 77 1 v (List.length q) (ptrs q) :: fam 137 (encs q) :: cl b 137 [(Value.int .i64 id), (Value.int .i64 (t / 1000000000)), (Value.int .i64 (t % 1000000000)), (Value.bool true), (Value.int .i64 k)] :: mp (Value.int .i64) mb m :: F) := (Holds.bring (Holds.bring (Holds.bring (Holds.bring (Holds.bring H2_ 5 rfl) 4 rfl) 4 rfl) 4 rfl) 4 rfl)
  refine S_list (T_call (al := [(Value.iface 139 (Value.pointer (some ⟨nb, 1, none⟩))), (Value.iface 77 (Value.pointer (some ⟨b, 0, none⟩)))]) (pre := [cl nb 135 [(Value.map (some mb)), v], sl 77 1 v (List.length q) (ptrs q), fam 137 (encs q), cl b 137 [(Value.int .i64 id), (Value.int .i64 (t / 1000000000)), (Value.int .i64 (t % 1000000000)), (Value.bool true), (Value.int .i64 k)]]) (F := mp (Value.int .i64) mb m :: F) rfl rfl cb63 (qPush R nb mb v q b id t k (by first | assumption | omega) (hq.heap)) H10_ ?_)
  rintro v5_ p14_ w11_ ⟨v6_, q7_, rfl, rfl, he8_, he9_⟩ S13_ H12_
  replace H12_ : Holds w11_ (ro R :: cl nb 135 [(Value.map (some mb)), v6_] :: sl 77 1 v6_ (List.length q7_) (ptrs q7_) :: fam 137 (encs q7_) :: mp (Value.int .i64) mb m :: F) := H12_
  have S15_ := Same.trans (Same.trans (Same.refl w) (Same.drew _)) S13_
  obtain ⟨jp, kp, hjp⟩ := qp_find he8_
  refine wpList_nil ?_
  refine (X_then (hK4_ _ _ ?_))
  clear hK4_
  refine A_start (S := fun w => Rd nb [(Value.map (some mb)), v6_] w ∧ SlRd v6_ (ptrs q7_) w ∧ FamRd (encs q7_) w ∧ Sub R (hp w)) (N := 10) foll rfl rfl ?_
  have H16_ : Holds w11_.drew (ro R :: cl nb 135 [(Value.map (some mb)), v6_] :: sl 77 1 v6_ (List.length q7_) (ptrs q7_) :: fam 137 (encs q7_) :: mp (Value.int .i64) mb m :: F) := H12_
  refine A_take 0 (ls' := #[true, false, false, false, false, false, false, false, false, false]) (v := (Value.pointer (some ⟨nb, 0, none⟩))) rfl (by kernel_rfl) (by kernel_rfl) (by kernel_rfl) (by kernel_rfl) (fun _ _ _ h => h) (fun w hS => x_move rfl) ⟨Holds.rd H16_ 1 rfl, Holds.slrd H16_ 2 rfl, Holds.famrd H16_ 3 rfl, (Holds.ro_at H16_ 0 rfl)⟩ ?_
  refine A_take 1 (ls' := #[true, true, false, false, false, false, false, false, false, false]) (v := (Value.pointer (some ⟨nb, 0, none⟩))) rfl (by kernel_rfl) (by kernel_rfl) (by kernel_rfl) (by kernel_rfl) (fun _ _ _ h => h) (fun w hS => by kernel_rfl) ⟨Holds.rd H16_ 1 rfl, Holds.slrd H16_ 2 rfl, Holds.famrd H16_ 3 rfl, (Holds.ro_at H16_ 0 rfl)⟩ ?_
  refine A_take 2 (ls' := #[true, true, true, false, false, false, false, false, false, false]) (v := (Value.pointer (some ⟨nb, 0, none⟩))) rfl (by kernel_rfl) (by kernel_rfl) (by kernel_rfl) (by kernel_rfl) (fun _ _ _ h => h) (fun w hS => by kernel_rfl) ⟨Holds.rd H16_ 1 rfl, Holds.slrd H16_ 2 rfl, Holds.famrd H16_ 3 rfl, (Holds.ro_at H16_ 0 rfl)⟩ ?_
  refine A_take 3 (ls' := #[true, true, true, true, false, false, false, false, false, false]) (v := (Value.map (some mb))) rfl (by kernel_rfl) (by kernel_rfl) (by kernel_rfl) (by kernel_rfl) (fun _ _ _ h => h) (fun w hS => x_load1 rfl Try.underlying131 rfl (hS.1 0 (Value.map (some mb)) rfl)) ⟨Holds.rd H16_ 1 rfl, Holds.slrd H16_ 2 rfl, Holds.famrd H16_ 3 rfl, (Holds.ro_at H16_ 0 rfl)⟩ ?_
  refine A_take 4 (ls' := #[true, true, true, true, true, false, false, false, false, false]) (v := (Value.pointer (some ⟨b, 0, none⟩))) rfl (by kernel_rfl) (by kernel_rfl) (by kernel_rfl) (by kernel_rfl) (fun _ _ _ h => h) (fun w hS => x_move rfl) ⟨Holds.rd H16_ 1 rfl, Holds.slrd H16_ 2 rfl, Holds.famrd H16_ 3 rfl, (Holds.ro_at H16_ 0 rfl)⟩ ?_
  refine A_take 5 (ls' := #[true, true, true, true, true, true, false, false, false, false]) (v := (Value.pointer (some ⟨b, 0, none⟩))) rfl (by kernel_rfl) (by kernel_rfl) (by kernel_rfl) (by kernel_rfl) (fun _ _ _ h => h) (fun w hS => by kernel_rfl) ⟨Holds.rd H16_ 1 rfl, Holds.slrd H16_ 2 rfl, Holds.famrd H16_ 3 rfl, (Holds.ro_at H16_ 0 rfl)⟩ ?_
  refine A_take 6 (ls' := #[true, true, true, true, true, true, true, false, false, false]) (v := (Value.pointer (some ⟨b, 0, none⟩))) rfl (by kernel_rfl) (by kernel_rfl) (by kernel_rfl) (by kernel_rfl) (fun _ _ _ h => h) (fun w hS => by kernel_rfl) ⟨Holds.rd H16_ 1 rfl, Holds.slrd H16_ 2 rfl, Holds.famrd H16_ 3 rfl, (Holds.ro_at H16_ 0 rfl)⟩ ?_
  refine A_take 7 (ls' := #[true, true, true, true, true, true, true, true, false, false]) (v := (Value.int .i64 id)) rfl (by kernel_rfl) (by kernel_rfl) (by kernel_rfl) (by kernel_rfl) (fun _ _ _ h => h) (fun w hS => x_load1 rfl Try.underlying79 rfl ((hS.2.2.1 _ _ _ (encs_at hjp)) 0 (Value.int .i64 id) rfl)) ⟨Holds.rd H16_ 1 rfl, Holds.slrd H16_ 2 rfl, Holds.famrd H16_ 3 rfl, (Holds.ro_at H16_ 0 rfl)⟩ ?_
  refine A_take 8 (ls' := #[true, true, true, true, true, true, true, true, true, false]) (v := (Value.pointer (some ⟨b, 0, none⟩))) rfl (by kernel_rfl) (by kernel_rfl) (by kernel_rfl) (by kernel_rfl) (fun _ _ _ h => h) (fun w hS => x_move rfl) ⟨Holds.rd H16_ 1 rfl, Holds.slrd H16_ 2 rfl, Holds.famrd H16_ 3 rfl, (Holds.ro_at H16_ 0 rfl)⟩ ?_
  refine A_ready (i := 9) (rs := []) (by kernel_rfl) ?_
  refine AllR.cons ?_ AllR.nil
  refine A_op0 (ls' := #[true, true, true, true, true, true, true, true, true, true]) rfl (by kernel_rfl) (T_mapUpdate (K := (Value.int .i64)) (a := id) rfl rfl rfl (KeyKind.int Try.underlying79) Try.underlying131 H16_ 4 rfl (hq.mnd) ?_)
  intro w17_ S19_ H18_
  replace H18_ : Holds w17_ (ro R :: cl nb 135 [(Value.map (some mb)), v6_] :: sl 77 1 v6_ (List.length q7_) (ptrs q7_) :: fam 137 (encs q7_) :: mp (Value.int .i64) mb (mset m id (Value.pointer (some ⟨b, 0, none⟩))) :: F) := H18_
  have S20_ := Same.trans (Same.trans S15_ (Same.drew _)) S19_
  refine ⟨⟨Holds.rd H18_ 1 rfl, Holds.slrd H18_ 2 rfl, Holds.famrd H18_ 3 rfl, (Holds.ro_at H18_ 0 rfl)⟩, ?_⟩
  refine A_done (by kernel_rfl) ?_
  refine R_0 rfl ?_
  exact ⟨_, [cl nb 135 [(Value.map (some mb)), v6_], sl 77 1 v6_ (List.length q7_) (ptrs q7_), fam 137 (encs q7_), mp (Value.int .i64) mb (mset m id (Value.pointer (some ⟨b, 0, none⟩)))], rfl, ⟨v6_, q7_, mset m id (Value.pointer (some ⟨b, 0, none⟩)), rfl, rfl, ((hq.new hm he8_ he9_).1), ((hq.new hm he8_ he9_).2)⟩, S20_, H18_⟩

set_option maxHeartbeats 400000 in
theorem qRegOld (R : HP) (nb mb : Nat) (v : Value) (q : List Nd) (m : List (Int × Value)) (b : Nat) (id t k : Int) (i : Nat) (x : Nd) (hq : QI q m) (hn : q.length ≤ 80000) (hx : q[i]? = some x) (hid : x.id = id) (hm : mget m id = some (Value.pointer (some ⟨x.b, 0, none⟩))) :
    Tri Try.prog 31 #[(Value.pointer (some ⟨nb, 0, none⟩)), (Value.pointer (some ⟨b, 0, none⟩))] R [cl nb 135 [(Value.map (some mb)), v], sl 77 1 v (List.length q) (ptrs q), fam 137 (encs q), mp (Value.int .i64) mb m, cl b 137 [(Value.int .i64 id), (Value.int .i64 (t / 1000000000)), (Value.int .i64 (t % 1000000000)), (Value.bool true), (Value.int .i64 k)]] (fun v__ post__ => ∃ (v' : Value) (q' : List Nd) (m' : List (Int × Value)), v__ = (Value.tuple #[]) ∧ post__ = [cl nb 135 [(Value.map (some mb)), v'], sl 77 1 v' (List.length q') (ptrs q'), fam 137 (encs q'), mp (Value.int .i64) mb m'] ∧ (QI q' m') ∧ ((dd q').Perm (dput (dd q) id t))) := by
  refine Tri.into (n := 51) (al := [(Value.pointer (some ⟨nb, 0, none⟩)), (Value.pointer (some ⟨b, 0, none⟩))]) Try.func31 rfl Try.ntmps31 rfl rfl fun w F H => ?_
  replace H : Holds w (ro R :: cl nb 135 [(Value.map (some mb)), v] :: sl 77 1 v (List.length q) (ptrs q) :: fam 137 (encs q) :: mp (Value.int .i64) mb m :: cl b 137 [(Value.int .i64 id), (Value.int .i64 (t / 1000000000)), (Value.int .i64 (t % 1000000000)), (Value.bool true), (Value.int .i64 k)] :: F) := H
  refine C_seq (fun K1_ hK1_ => ?_)
  refine A_start (S := fun w => Rd nb [(Value.map (some mb)), v] w ∧ SlRd v (ptrs q) w ∧ FamRd (encs q) w ∧ MpRd (Value.int .i64) mb m w ∧ Rd b [(Value.int .i64 id), (Value.int .i64 (t / 1000000000)), (Value.int .i64 (t % 1000000000)), (Value.bool true), (Value.int .i64 k)] w ∧ Sub R (hp w)) (N := 14) foll rfl rfl ?_
  have H2_ : Holds w.drew (ro R :: cl nb 135 [(Value.map (some mb)), v] :: sl 77 1 v (List.length q) (ptrs q) :: fam 137 (encs q) :: mp (Value.int .i64) mb m :: cl b 137 [(Value.int .i64 id), (Value.int .i64 (t / 1000000000)), (Value.int .i64 (t % 1000000000)), (Value.bool true), (Value.int .i64 k)] :: F) := H
  refine A_take 0 (ls' := #[true, false, false, false, false, false, false, false, false, false, false, false, false, false]) (v := (Value.pointer (some ⟨nb, 0, none⟩))) rfl (by kernel_rfl) (by kernel_rfl) (by kernel_rfl) (by kernel_rfl) (fun _ _ _ h => h) (fun w hS => x_move rfl) ⟨Holds.rd H2_ 1 rfl, Holds.slrd H2_ 2 rfl, Holds.famrd H2_ 3 rfl, Holds.mprd H2_ 4 rfl, Holds.rd H2_ 5 rfl, (Holds.ro_at H2_ 0 rfl)⟩ ?_
  refine A_take 1 (ls' := #[true, true, false, false, false, false, false, false, false, false, false, false, false, false]) (v := (Value.pointer (some ⟨nb, 0, none⟩))) rfl (by kernel_rfl) (by kernel_rfl) (by kernel_rfl) (by kernel_rfl) (fun _ _ _ h => h) (fun w hS => by kernel_rfl) ⟨Holds.rd H2_ 1 rfl, Holds.slrd H2_ 2 rfl, Holds.famrd H2_ 3 rfl, Holds.mprd H2_ 4 rfl, Holds.rd H2_ 5 rfl, (Holds.ro_at H2_ 0 rfl)⟩ ?_
  refine A_take 2 (ls' := #[true, true, true, false, false, false, false, false, false, false, false, false, false, false]) (v := (Value.pointer (some ⟨nb, 0, none⟩))) rfl (by kernel_rfl) (by kernel_rfl) (by kernel_rfl) (by kernel_rfl) (fun _ _ _ h => h) (fun w hS => by kernel_rfl) ⟨Holds.rd H2_ 1 rfl, Holds.slrd H2_ 2 rfl, Holds.famrd H2_ 3 rfl, Holds.mprd H2_ 4 rfl, Holds.rd H2_ 5 rfl, (Holds.ro_at H2_ 0 rfl)⟩ ?_
  refine A_take 3 (ls' := #[true, true, true, true, false, false, false, false, false, false, false, false, false, false]) (v := (Value.map (some mb))) rfl (by kernel_rfl) (by kernel_rfl) (by kernel_rfl) (by kernel_rfl) (fun _ _ _ h => h) (fun w hS => x_load1 rfl Try.underlying131 rfl (hS.1 0 (Value.map (some mb)) rfl)) ⟨Holds.rd H2_ 1 rfl, Holds.slrd H2_ 2 rfl, Holds.famrd H2_ 3 rfl, Holds.mprd H2_ 4 rfl, Holds.rd H2_ 5 rfl, (Holds.ro_at H2_ 0 rfl)⟩ ?_
  refine A_take 4 (ls' := #[true, true, true, true, true, false, false, false, false, false, false, false, false, false]) (v := (Value.pointer (some ⟨b, 0, none⟩))) rfl (by kernel_rfl) (by kernel_rfl) (by kernel_rfl) (by kernel_rfl) (fun _ _ _ h => h) (fun w hS => x_move rfl) ⟨Holds.rd H2_ 1 rfl, Holds.slrd H2_ 2 rfl, Holds.famrd H2_ 3 rfl, Holds.mprd H2_ 4 rfl, Holds.rd H2_ 5 rfl, (Holds.ro_at H2_ 0 rfl)⟩ ?_
  refine A_take 5 (ls' := #[true, true, true, true, true, true, false, false, false, false, false, false, false, false]) (v := (Value.pointer (some ⟨b, 0, none⟩))) rfl (by kernel_rfl) (by kernel_rfl) (by kernel_rfl) (by kernel_rfl) (fun _ _ _ h => h) (fun w hS => by kernel_rfl) ⟨Holds.rd H2_ 1 rfl, Holds.slrd H2_ 2 rfl, Holds.famrd H2_ 3 rfl, Holds.mprd H2_ 4 rfl, Holds.rd H2_ 5 rfl, (Holds.ro_at H2_ 0 rfl)⟩ ?_
  refine A_take 6 (ls' := #[true, true, true, true, true, true, true, false, false, false, false, false, false, false]) (v := (Value.pointer (some ⟨b, 0, none⟩))) rfl (by kernel_rfl) (by kernel_rfl) (by kernel_rfl) (by kernel_rfl) (fun _ _ _ h => h) (fun w hS => by kernel_rfl) ⟨Holds.rd H2_ 1 rfl, Holds.slrd H2_ 2 rfl, Holds.famrd H2_ 3 rfl, Holds.mprd H2_ 4 rfl, Holds.rd H2_ 5 rfl, (Holds.ro_at H2_ 0 rfl)⟩ ?_
  refine A_take 7 (ls' := #[true, true, true, true, true, true, true, true, false, false, false, false, false, false]) (v := (Value.int .i64 id)) rfl (by kernel_rfl) (by kernel_rfl) (by kernel_rfl) (by kernel_rfl) (fun _ _ _ h => h) (fun w hS => x_load1 rfl Try.underlying79 rfl (hS.2.2.2.2.1 0 (Value.int .i64 id) rfl)) ⟨Holds.rd H2_ 1 rfl, Holds.slrd H2_ 2 rfl, Holds.famrd H2_ 3 rfl, Holds.mprd H2_ 4 rfl, Holds.rd H2_ 5 rfl, (Holds.ro_at H2_ 0 rfl)⟩ ?_
  refine A_take 8 (ls' := #[true, true, true, true, true, true, true, true, true, false, false, false, false, false]) (v := (Value.tuple #[(Value.pointer (some ⟨x.b, 0, none⟩)), (Value.bool true)])) rfl (by kernel_rfl) (by kernel_rfl) (by kernel_rfl) (by kernel_rfl) (fun _ _ _ h => h) (fun w hS => x_lookup (K := (Value.int .i64)) (a := id) (m := m) rfl rfl (KeyKind.int Try.underlying79) Try.underlying131 z77 hS.2.2.2.1 (by rw [hm]; rfl)) ⟨Holds.rd H2_ 1 rfl, Holds.slrd H2_ 2 rfl, Holds.famrd H2_ 3 rfl, Holds.mprd H2_ 4 rfl, Holds.rd H2_ 5 rfl, (Holds.ro_at H2_ 0 rfl)⟩ ?_
  refine A_take 9 (ls' := #[true, true, true, true, true, true, true, true, true, true, false, false, false, false]) (v := (Value.tuple #[(Value.pointer (some ⟨x.b, 0, none⟩)), (Value.bool true)])) rfl (by kernel_rfl) (by kernel_rfl) (by kernel_rfl) (by kernel_rfl) (fun _ _ _ h => h) (fun w hS => x_move rfl) ⟨Holds.rd H2_ 1 rfl, Holds.slrd H2_ 2 rfl, Holds.famrd H2_ 3 rfl, Holds.mprd H2_ 4 rfl, Holds.rd H2_ 5 rfl, (Holds.ro_at H2_ 0 rfl)⟩ ?_
  refine A_take 10 (ls' := #[true, true, true, true, true, true, true, true, true, true, true, false, false, false]) (v := (Value.pointer (some ⟨x.b, 0, none⟩))) rfl (by kernel_rfl) (by kernel_rfl) (by kernel_rfl) (by kernel_rfl) (fun _ _ _ h => h) (fun w hS => by kernel_rfl) ⟨Holds.rd H2_ 1 rfl, Holds.slrd H2_ 2 rfl, Holds.famrd H2_ 3 rfl, Holds.mprd H2_ 4 rfl, Holds.rd H2_ 5 rfl, (Holds.ro_at H2_ 0 rfl)⟩ ?_
  refine A_take 11 (ls' := #[true, true, true, true, true, true, true, true, true, true, true, true, false, false]) (v := (Value.bool true)) rfl (by kernel_rfl) (by kernel_rfl) (by kernel_rfl) (by kernel_rfl) (fun _ _ _ h => h) (fun w hS => by kernel_rfl) ⟨Holds.rd H2_ 1 rfl, Holds.slrd H2_ 2 rfl, Holds.famrd H2_ 3 rfl, Holds.mprd H2_ 4 rfl, Holds.rd H2_ 5 rfl, (Holds.ro_at H2_ 0 rfl)⟩ ?_
  refine A_take 12 (ls' := #[true, true, true, true, true, true, true, true, true, true, true, true, true, false]) (v := (Value.pointer (some ⟨x.b, 0, none⟩))) rfl (by kernel_rfl) (by kernel_rfl) (by kernel_rfl) (by kernel_rfl) (fun _ _ _ h => h) (fun w hS => x_assign rfl) ⟨Holds.rd H2_ 1 rfl, Holds.slrd H2_ 2 rfl, Holds.famrd H2_ 3 rfl, Holds.mprd H2_ 4 rfl, Holds.rd H2_ 5 rfl, (Holds.ro_at H2_ 0 rfl)⟩ ?_
  refine A_take 13 (ls' := #[true, true, true, true, true, true, true, true, true, true, true, true, true, true]) (v := (Value.bool true)) rfl (by kernel_rfl) (by kernel_rfl) (by kernel_rfl) (by kernel_rfl) (fun _ _ _ h => h) (fun w hS => x_assign rfl) ⟨Holds.rd H2_ 1 rfl, Holds.slrd H2_ 2 rfl, Holds.famrd H2_ 3 rfl, Holds.mprd H2_ 4 rfl, Holds.rd H2_ 5 rfl, (Holds.ro_at H2_ 0 rfl)⟩ ?_
  refine A_done (by kernel_rfl) ?_
  refine (X_then (hK1_ _ _ ?_))
  clear hK1_
  refine C_seq (fun K3_ hK3_ => ?_)
  refine C_reg ?_
  refine S_list (T_val (v := (Value.bool true)) (x_move rfl) ?_)
  refine wpList_nil ?_
  refine (X_then (hK3_ _ _ ?_))
  clear hK3_
  refine C_condT rfl ?_
  refine C_seq (fun K4_ hK4_ => ?_)
  refine C_reg ?_
  refine S_list (T_val (v := (Value.pointer (some ⟨x.b, 0, none⟩))) (x_move rfl) ?_)
  refine S_list (T_val (v := (Value.pointer (some ⟨b, 0, none⟩))) (x_move rfl) ?_)
  refine S_list (T_val (v := (Value.pointer (some ⟨b, 0, none⟩))) (by kernel_rfl) ?_)
  refine S_list (T_val (v := (Value.pointer (some ⟨b, 1, none⟩))) (by kernel_rfl) ?_)
  refine S_list (T_val (v := (Value.agg #[(Value.int .i64 (t / 1000000000)), (Value.int .i64 (t % 1000000000)), (Value.bool true)])) (x_loadN (vs := [(Value.int .i64 (t / 1000000000)), (Value.int .i64 (t % 1000000000)), (Value.bool true)]) rfl Try.underlying81 rfl z81 rfl (Rd.cells (Holds.rd H2_ 5 rfl) 1 rfl)) ?_)
  refine S_list (T_val (v := (Value.pointer (some ⟨x.b, 0, none⟩))) (by kernel_rfl) ?_)
  refine S_list (T_val (v := (Value.pointer (some ⟨x.b, 1, none⟩))) (by kernel_rfl) ?_)
  refine S_list0 (T_storeFamN (vs := [(Value.int .i64 (t / 1000000000)), (Value.int .i64 (t % 1000000000)), (Value.bool true)]) rfl rfl z81 rfl (by simp [Value.oneCell']) H2_ 3 rfl (encs_at hx) (Nat.le_of_ble_eq_true (by rfl)) ?_)
  intro w5_ S7_ H6_
  replace H6_ : Holds w5_ (ro R :: cl nb 135 [(Value.map (some mb)), v] :: sl 77 1 v (List.length q) (ptrs q) :: fam 137 (List.set (encs q) i (x.b, [(Value.int .i64 x.id), (Value.int .i64 (t / 1000000000)), (Value.int .i64 (t % 1000000000)), (Value.bool true), (Value.int .i64 x.idx)])) :: mp (Value.int .i64) mb m :: cl b 137 [(Value.int .i64 id), (Value.int .i64 (t / 1000000000)), (Value.int .i64 (t % 1000000000)), (Value.bool true), (Value.int .i64 k)] :: F) := H6_
  have S8_ := Same.trans (Same.trans (Same.refl w) (Same.drew _)) S7_
  have H9_ : Holds w5_ (ro R :: cl nb 135 [(Value.map (some mb)), v] :: sl 77 1 v (List.length q) (ptrs q) :: fam 137 (encs (retime q i x t)) :: mp (Value.int .i64) mb m :: cl b 137 [(Value.int .i64 id), (Value.int .i64 (t / 1000000000)), (Value.int .i64 (t % 1000000000)), (Value.bool true), (Value.int .i64 k)] :: F) := by have := H6_; rwa [retime_encs] at this
  have H10_ : Holds w5_ (ro R :: cl nb 135 [(Value.map (some mb)), v] :: sl 77 1 v (List.length (retime q i x t)) (ptrs (retime q i x t)) :: fam 137 (encs (retime q i x t)) :: mp (Value.int .i64) mb m :: cl b 137 [(Value.int .i64 id), (Value.int .i64 (t / 1000000000)), (Value.int .i64 (t % 1000000000)), (Value.bool true), (Value.int .i64 k)] :: F) := cast2 (P := fun (c__ : List Value) (k__ : Nat) => Holds w5_ (ro R :: cl nb 135 [(Value.map (some mb)), v] :: sl 77 1 v k__ c__ :: fam 137 (encs (retime q i x t)) :: mp (Value.int .i64) mb m :: cl b 137 [(Value.int .i64 id), (Value.int .i64 (t / 1000000000)), (Value.int .i64 (t % 1000000000)), (Value.bool true), (Value.int .i64 k)] :: F)) (retime_ptrs hx : ptrs q = ptrs (retime q i x t)) ((retime_len ..).symm : (List.length q) = (List.length (retime q i x t))) H9_
  refine wpList_nil ?_
  refine (X_then (hK4_ _ _ ?_))
  clear hK4_
  refine A_start (S := fun w => MpRd (Value.int .i64) mb m w ∧ Sub R (hp w)) (N := 9) foll rfl rfl ?_
  have H11_ : Holds w5_.drew (ro R :: cl nb 135 [(Value.map (some mb)), v] :: sl 77 1 v (List.length (retime q i x t)) (ptrs (retime q i x t)) :: fam 137 (encs (retime q i x t)) :: mp (Value.int .i64) mb m :: cl b 137 [(Value.int .i64 id), (Value.int .i64 (t / 1000000000)), (Value.int .i64 (t % 1000000000)), (Value.bool true), (Value.int .i64 k)] :: F) := H10_
  refine A_take 0 (ls' := #[true, false, false, false, false, false, false, false, false]) (v := (Value.pointer (some ⟨nb, 0, none⟩))) rfl (by kernel_rfl) (by kernel_rfl) (by kernel_rfl) (by kernel_rfl) (fun _ _ _ h => h) (fun w hS => x_move rfl) ⟨Holds.mprd H11_ 4 rfl, (Holds.ro_at H11_ 0 rfl)⟩ ?_
  refine A_take 1 (ls' := #[true, true, false, false, false, false, false, false, false]) (v := (Value.pointer (some ⟨nb, 0, none⟩))) rfl (by kernel_rfl) (by kernel_rfl) (by kernel_rfl) (by kernel_rfl) (fun _ _ _ h => h) (fun w hS => by kernel_rfl) ⟨Holds.mprd H11_ 4 rfl, (Holds.ro_at H11_ 0 rfl)⟩ ?_
  refine A_take 2 (ls' := #[true, true, true, false, false, false, false, false, false]) (v := (Value.pointer (some ⟨nb, 1, none⟩))) rfl (by kernel_rfl) (by kernel_rfl) (by kernel_rfl) (by kernel_rfl) (fun _ _ _ h => h) (fun w hS => by kernel_rfl) ⟨Holds.mprd H11_ 4 rfl, (Holds.ro_at H11_ 0 rfl)⟩ ?_
  refine A_take 3 (ls' := #[true, true, true, true, false, false, false, false, false]) (v := (Value.iface 139 (Value.pointer (some ⟨nb, 1, none⟩)))) rfl (by kernel_rfl) (by kernel_rfl) (by kernel_rfl) (by kernel_rfl) (fun _ _ _ h => h) (fun w hS => by kernel_rfl) ⟨Holds.mprd H11_ 4 rfl, (Holds.ro_at H11_ 0 rfl)⟩ ?_
  refine A_take 4 (ls' := #[true, true, true, true, true, false, false, false, false]) (v := (Value.pointer (some ⟨x.b, 0, none⟩))) rfl (by kernel_rfl) (by kernel_rfl) (by kernel_rfl) (by kernel_rfl) (fun _ _ _ h => h) (fun w hS => x_move rfl) ⟨Holds.mprd H11_ 4 rfl, (Holds.ro_at H11_ 0 rfl)⟩ ?_
  refine A_take 5 (ls' := #[true, true, true, true, true, true, false, false, false]) (v := (Value.pointer (some ⟨x.b, 0, none⟩))) rfl (by kernel_rfl) (by kernel_rfl) (by kernel_rfl) (by kernel_rfl) (fun _ _ _ h => h) (fun w hS => by kernel_rfl) ⟨Holds.mprd H11_ 4 rfl, (Holds.ro_at H11_ 0 rfl)⟩ ?_
  refine A_take 6 (ls' := #[true, true, true, true, true, true, true, false, false]) (v := (Value.pointer (some ⟨x.b, 4, none⟩))) rfl (by kernel_rfl) (by kernel_rfl) (by kernel_rfl) (by kernel_rfl) (fun _ _ _ h => h) (fun w hS => by kernel_rfl) ⟨Holds.mprd H11_ 4 rfl, (Holds.ro_at H11_ 0 rfl)⟩ ?_
  refine A_ready (i := 7) (rs := []) (by kernel_rfl) ?_
  refine AllR.cons ?_ AllR.nil
  refine A_op (ls' := #[true, true, true, true, true, true, true, true, false]) rfl (by kernel_rfl) (T_val (v := (Value.int .i64 x.idx)) (x_load1 rfl Try.underlying3 rfl (((Holds.famrd H11_ 3 rfl) _ _ _ (retime_at hx)) 4 (Value.int .i64 x.idx) rfl)) ?_)
  refine ⟨⟨Holds.mprd H11_ 4 rfl, (Holds.ro_at H11_ 0 rfl)⟩, ?_⟩
  refine A_ready (i := 8) (rs := []) (by kernel_rfl) ?_
  refine AllR.cons ?_ AllR.nil
  refine A_op (ls' := #[true, true, true, true, true, true, true, true, true]) rfl (by kernel_rfl) (T_call (al := [(Value.iface 139 (Value.pointer (some ⟨nb, 1, none⟩))), (Value.int .i64 (i : Int))]) (pre := [cl nb 135 [(Value.map (some mb)), v], sl 77 1 v (List.length (retime q i x t)) (ptrs (retime q i x t)), fam 137 (encs (retime q i x t))]) (F := mp (Value.int .i64) mb m :: cl b 137 [(Value.int .i64 id), (Value.int .i64 (t / 1000000000)), (Value.int .i64 (t % 1000000000)), (Value.bool true), (Value.int .i64 k)] :: F) rfl (lcons rfl (lcons (congrArg (Value.int .i64) ((hq.good i x hx) : x.idx = (i : Int))) rfl)) cb62 (qFix R nb mb v q i x t (by first | assumption | omega) (by first | assumption | omega) (hq.heap)) H11_ ?_)
  rintro v12_ p19_ w16_ ⟨q13_, rfl, rfl, he14_, he15_⟩ S18_ H17_
  replace H17_ : Holds w16_ (ro R :: cl nb 135 [(Value.map (some mb)), v] :: sl 77 1 v (List.length q13_) (ptrs q13_) :: fam 137 (encs q13_) :: mp (Value.int .i64) mb m :: cl b 137 [(Value.int .i64 id), (Value.int .i64 (t / 1000000000)), (Value.int .i64 (t % 1000000000)), (Value.bool true), (Value.int .i64 k)] :: F) := H17_
  have S20_ := Same.trans (Same.trans S8_ (Same.drew _)) S18_
  refine ⟨⟨Holds.mprd H17_ 4 rfl, (Holds.ro_at H17_ 0 rfl)⟩, ?_⟩
  refine A_done (by kernel_rfl) ?_
  refine R_0 rfl ?_
  have H21_ : Holds w16_ (ro R :: cl nb 135 [(Value.map (some mb)), v] :: sl 77 1 v (List.length q13_) (ptrs q13_) :: fam 137 (encs q13_) :: mp (Value.int .i64) mb m :: F) := (Holds.erase (Holds.bring (Holds.bring (Holds.bring (Holds.bring (Holds.bring H17_ 4 rfl) 4 rfl) 4 rfl) 4 rfl) 4 rfl) 5)
  exact ⟨_, [cl nb 135 [(Value.map (some mb)), v], sl 77 1 v (List.length q13_) (ptrs q13_), fam 137 (encs q13_), mp (Value.int .i64) mb m], rfl, ⟨v, q13_, m, rfl, rfl, ((hq.old hx he14_ he15_).1), (by rw [← hid]; exact (hq.old hx he14_ he15_).2)⟩, S20_, H21_⟩

theorem qReg (R : HP) (nb mb : Nat) (v : Value) (q : List Nd) (m : List (Int × Value)) (b : Nat) (id t k : Int) (hq : QI q m) (hn : q.length ≤ 80000) :
    Tri Try.prog 31 #[(Value.pointer (some ⟨nb, 0, none⟩)), (Value.pointer (some ⟨b, 0, none⟩))] R [cl nb 135 [(Value.map (some mb)), v], sl 77 1 v (List.length q) (ptrs q), fam 137 (encs q), mp (Value.int .i64) mb m, cl b 137 [(Value.int .i64 id), (Value.int .i64 (t / 1000000000)), (Value.int .i64 (t % 1000000000)), (Value.bool true), (Value.int .i64 k)]] (fun v__ post__ => ∃ (v' : Value) (q' : List Nd) (m' : List (Int × Value)), v__ = (Value.tuple #[]) ∧ post__ = [cl nb 135 [(Value.map (some mb)), v'], sl 77 1 v' (List.length q') (ptrs q'), fam 137 (encs q'), mp (Value.int .i64) mb m'] ∧ (QI q' m') ∧ ((dd q').Perm (dput (dd q) id t))) := by
  cases hm : mget m id with
  | none => exact qRegNew R nb mb v q m b id t k hq hn hm
  | some pv =>
    obtain ⟨x, hx, hid, rfl⟩ := (hq.mm _ _).1 hm
    obtain ⟨i, hi, e⟩ := List.getElem_of_mem hx
    exact qRegOld R nb mb v q m b id t k i x hq hn (by rw [List.getElem?_eq_getElem hi, e]) hid hm

set_option maxHeartbeats 400000 in
theorem qUnreg (R : HP) (nb mb : Nat) (v : Value) (q : List Nd) (m : List (Int × Value)) (x : Nd) (hq : QI q m) (hn : q.length ≤ 80000) (hx : q[0]? = some x) :
    Tri Try.prog 38 #[(Value.pointer (some ⟨nb, 0, none⟩))] R [cl nb 135 [(Value.map (some mb)), v], sl 77 1 v (List.length q) (ptrs q), fam 137 (encs q), mp (Value.int .i64) mb m] (fun v__ post__ => ∃ (v' : Value) (q' : List Nd) (m' : List (Int × Value)), v__ = (Value.pointer (some ⟨x.b, 0, none⟩)) ∧ post__ = [cl nb 135 [(Value.map (some mb)), v'], sl 77 1 v' (List.length q') (ptrs q'), fam 137 (encs q'), mp (Value.int .i64) mb m', cl x.b 137 [(Value.int .i64 x.id), (Value.int .i64 (x.t / 1000000000)), (Value.int .i64 (x.t % 1000000000)), (Value.bool true), (Value.int .i64 (-1))]] ∧ (QI q' m') ∧ ((dd q).Perm ((x.id, x.t) :: dd q'))) := by
  have hl0 := (List.getElem?_eq_some_iff.1 hx).1
  obtain ⟨n, hl⟩ : ∃ n, q.length = n + 1 := ⟨q.length - 1, by omega⟩
  refine Tri.into (n := 19) (al := [(Value.pointer (some ⟨nb, 0, none⟩))]) Try.func38 rfl Try.ntmps38 rfl rfl fun w F H => ?_
  replace H : Holds w (ro R :: cl nb 135 [(Value.map (some mb)), v] :: sl 77 1 v (List.length q) (ptrs q) :: fam 137 (encs q) :: mp (Value.int .i64) mb m :: F) := H
  refine C_seq (fun K1_ hK1_ => ?_)
  refine C_reg ?_
  refine S_list (T_val (v := (Value.pointer none)) (x_assign rfl) ?_)
  refine wpList_nil ?_
  refine (X_then (hK1_ _ _ ?_))
  clear hK1_
  refine C_seq (fun K2_ hK2_ => ?_)
  refine C_reg ?_
  refine S_list (T_val (v := (Value.pointer (some ⟨nb, 0, none⟩))) (x_move rfl) ?_)
  refine S_list (T_val (v := (Value.pointer (some ⟨nb, 0, none⟩))) (by kernel_rfl) ?_)
  refine S_list (T_val (v := (Value.pointer (some ⟨nb, 1, none⟩))) (by kernel_rfl) ?_)
  refine S_list (T_val (v := (Value.iface 139 (Value.pointer (some ⟨nb, 1, none⟩)))) (by kernel_rfl) ?_)
  refine S_list (T_call (al := [(Value.iface 139 (Value.pointer (some ⟨nb, 1, none⟩)))]) (pre := [cl nb 135 [(Value.map (some mb)), v], sl 77 1 v (List.length q) (ptrs q), fam 137 (encs q)]) (F := mp (Value.int .i64) mb m :: F) rfl rfl cb65 (qPop R nb mb v q n x (by first | assumption | omega) (by first | assumption | omega) (by first | assumption | omega) (hq.heap)) H ?_)
  rintro v3_ p13_ w10_ ⟨v4_, q5_, rfl, rfl, he6_, he7_, he8_, he9_⟩ S12_ H11_
  replace H11_ : Holds w10_ (ro R :: cl nb 135 [(Value.map (some mb)), v4_] :: sl 77 1 v4_ (List.length q5_) (ptrs q5_) :: fam 137 (encs q5_) :: cl x.b 137 [(Value.int .i64 x.id), (Value.int .i64 (x.t / 1000000000)), (Value.int .i64 (x.t % 1000000000)), (Value.bool true), (Value.int .i64 (-1))] :: mp (Value.int .i64) mb m :: F) := H11_
  have S14_ := Same.trans (Same.refl w) S12_
  refine S_list (T_val (v := (Value.pointer (some ⟨x.b, 0, none⟩))) (by kernel_rfl) ?_)
  refine S_list (T_val (v := (Value.pointer (some ⟨x.b, 0, none⟩))) (x_assign rfl) ?_)
  refine wpList_nil ?_
  refine (X_then (hK2_ _ _ ?_))
  clear hK2_
  refine C_seq (fun K15_ hK15_ => ?_)
  refine A_start (S := fun w => Rd nb [(Value.map (some mb)), v4_] w ∧ SlRd v4_ (ptrs q5_) w ∧ FamRd (encs q5_) w ∧ Rd x.b [(Value.int .i64 x.id), (Value.int .i64 (x.t / 1000000000)), (Value.int .i64 (x.t % 1000000000)), (Value.bool true), (Value.int .i64 (-1))] w ∧ Sub R (hp w)) (N := 9) foll rfl rfl ?_
  have H16_ : Holds w10_.drew (ro R :: cl nb 135 [(Value.map (some mb)), v4_] :: sl 77 1 v4_ (List.length q5_) (ptrs q5_) :: fam 137 (encs q5_) :: cl x.b 137 [(Value.int .i64 x.id), (Value.int .i64 (x.t / 1000000000)), (Value.int .i64 (x.t % 1000000000)), (Value.bool true), (Value.int .i64 (-1))] :: mp (Value.int .i64) mb m :: F) := H11_
  refine A_take 0 (ls' := #[true, false, false, false, false, false, false, false, false]) (v := (Value.pointer (some ⟨nb, 0, none⟩))) rfl (by kernel_rfl) (by kernel_rfl) (by kernel_rfl) (by kernel_rfl) (fun _ _ _ h => h) (fun w hS => x_move rfl) ⟨Holds.rd H16_ 1 rfl, Holds.slrd H16_ 2 rfl, Holds.famrd H16_ 3 rfl, Holds.rd H16_ 4 rfl, (Holds.ro_at H16_ 0 rfl)⟩ ?_
  refine A_take 1 (ls' := #[true, true, false, false, false, false, false, false, false]) (v := (Value.pointer (some ⟨nb, 0, none⟩))) rfl (by kernel_rfl) (by kernel_rfl) (by kernel_rfl) (by kernel_rfl) (fun _ _ _ h => h) (fun w hS => by kernel_rfl) ⟨Holds.rd H16_ 1 rfl, Holds.slrd H16_ 2 rfl, Holds.famrd H16_ 3 rfl, Holds.rd H16_ 4 rfl, (Holds.ro_at H16_ 0 rfl)⟩ ?_
  refine A_take 2 (ls' := #[true, true, true, false, false, false, false, false, false]) (v := (Value.pointer (some ⟨nb, 0, none⟩))) rfl (by kernel_rfl) (by kernel_rfl) (by kernel_rfl) (by kernel_rfl) (fun _ _ _ h => h) (fun w hS => by kernel_rfl) ⟨Holds.rd H16_ 1 rfl, Holds.slrd H16_ 2 rfl, Holds.famrd H16_ 3 rfl, Holds.rd H16_ 4 rfl, (Holds.ro_at H16_ 0 rfl)⟩ ?_
  refine A_take 3 (ls' := #[true, true, true, true, false, false, false, false, false]) (v := (Value.map (some mb))) rfl (by kernel_rfl) (by kernel_rfl) (by kernel_rfl) (by kernel_rfl) (fun _ _ _ h => h) (fun w hS => x_load1 rfl Try.underlying131 rfl (hS.1 0 (Value.map (some mb)) rfl)) ⟨Holds.rd H16_ 1 rfl, Holds.slrd H16_ 2 rfl, Holds.famrd H16_ 3 rfl, Holds.rd H16_ 4 rfl, (Holds.ro_at H16_ 0 rfl)⟩ ?_
  refine A_take 4 (ls' := #[true, true, true, true, true, false, false, false, false]) (v := (Value.pointer (some ⟨x.b, 0, none⟩))) rfl (by kernel_rfl) (by kernel_rfl) (by kernel_rfl) (by kernel_rfl) (fun _ _ _ h => h) (fun w hS => x_move rfl) ⟨Holds.rd H16_ 1 rfl, Holds.slrd H16_ 2 rfl, Holds.famrd H16_ 3 rfl, Holds.rd H16_ 4 rfl, (Holds.ro_at H16_ 0 rfl)⟩ ?_
  refine A_take 5 (ls' := #[true, true, true, true, true, true, false, false, false]) (v := (Value.pointer (some ⟨x.b, 0, none⟩))) rfl (by kernel_rfl) (by kernel_rfl) (by kernel_rfl) (by kernel_rfl) (fun _ _ _ h => h) (fun w hS => by kernel_rfl) ⟨Holds.rd H16_ 1 rfl, Holds.slrd H16_ 2 rfl, Holds.famrd H16_ 3 rfl, Holds.rd H16_ 4 rfl, (Holds.ro_at H16_ 0 rfl)⟩ ?_
  refine A_take 6 (ls' := #[true, true, true, true, true, true, true, false, false]) (v := (Value.pointer (some ⟨x.b, 0, none⟩))) rfl (by kernel_rfl) (by kernel_rfl) (by kernel_rfl) (by kernel_rfl) (fun _ _ _ h => h) (fun w hS => by kernel_rfl) ⟨Holds.rd H16_ 1 rfl, Holds.slrd H16_ 2 rfl, Holds.famrd H16_ 3 rfl, Holds.rd H16_ 4 rfl, (Holds.ro_at H16_ 0 rfl)⟩ ?_
  refine A_take 7 (ls' := #[true, true, true, true, true, true, true, true, false]) (v := (Value.int .i64 x.id)) rfl (by kernel_rfl) (by kernel_rfl) (by kernel_rfl) (by kernel_rfl) (fun _ _ _ h => h) (fun w hS => x_load1 rfl Try.underlying79 rfl (hS.2.2.2.1 0 (Value.int .i64 x.id) rfl)) ⟨Holds.rd H16_ 1 rfl, Holds.slrd H16_ 2 rfl, Holds.famrd H16_ 3 rfl, Holds.rd H16_ 4 rfl, (Holds.ro_at H16_ 0 rfl)⟩ ?_
  refine A_ready (i := 8) (rs := []) (by kernel_rfl) ?_
  refine AllR.cons ?_ AllR.nil
  refine A_op0 (ls' := #[true, true, true, true, true, true, true, true, true]) rfl (by kernel_rfl) (T_delete (K := (Value.int .i64)) (a := x.id) rfl rfl (KeyKind.int Try.underlying79) Try.underlying131 H16_ 5 rfl ?_)
  intro w17_ S19_ H18_
  replace H18_ : Holds w17_ (ro R :: cl nb 135 [(Value.map (some mb)), v4_] :: sl 77 1 v4_ (List.length q5_) (ptrs q5_) :: fam 137 (encs q5_) :: cl x.b 137 [(Value.int .i64 x.id), (Value.int .i64 (x.t / 1000000000)), (Value.int .i64 (x.t % 1000000000)), (Value.bool true), (Value.int .i64 (-1))] :: mp (Value.int .i64) mb (mdel m x.id) :: F) := H18_
  have S20_ := Same.trans (Same.trans S14_ (Same.drew _)) S19_
  refine ⟨⟨Holds.rd H18_ 1 rfl, Holds.slrd H18_ 2 rfl, Holds.famrd H18_ 3 rfl, Holds.rd H18_ 4 rfl, (Holds.ro_at H18_ 0 rfl)⟩, ?_⟩
  refine A_done (by kernel_rfl) ?_
  refine (X_then (hK15_ _ _ ?_))
  clear hK15_
  refine C_seq (fun K21_ hK21_ => ?_)
  refine C_reg ?_
  refine S_list (T_val (v := (Value.pointer (some ⟨x.b, 0, none⟩))) (x_move rfl) ?_)
  refine S_list (T_val (v := (Value.pointer (some ⟨x.b, 0, none⟩))) (x_assign rfl) ?_)
  refine wpList_nil ?_
  refine (X_then (hK21_ _ _ ?_))
  clear hK21_
  refine C_ret ?_
  refine R_any (v := (Value.pointer (some ⟨x.b, 0, none⟩))) (run_results1 rfl rfl) ?_
  have H22_ : Holds w17_ (ro R :: cl nb 135 [(Value.map (some mb)), v4_] :: sl 77 1 v4_ (List.length q5_) (ptrs q5_) :: fam 137 (encs q5_) :: mp (Value.int .i64) mb (mdel m x.id) :: cl x.b 137 [(Value.int .i64 x.id), (Value.int .i64 (x.t / 1000000000)), (Value.int .i64 (x.t % 1000000000)), (Value.bool true), (Value.int .i64 (-1))] :: F) := (Holds.bring (Holds.bring (Holds.bring (Holds.bring (Holds.bring (Holds.bring H18_ 4 rfl) 5 rfl) 5 rfl) 5 rfl) 5 rfl) 5 rfl)
  exact ⟨_, [cl nb 135 [(Value.map (some mb)), v4_], sl 77 1 v4_ (List.length q5_) (ptrs q5_), fam 137 (encs q5_), mp (Value.int .i64) mb (mdel m x.id), cl x.b 137 [(Value.int .i64 x.id), (Value.int .i64 (x.t / 1000000000)), (Value.int .i64 (x.t % 1000000000)), (Value.bool true), (Value.int .i64 (-1))]], rfl, ⟨v4_, q5_, mdel m x.id, rfl, rfl, ((hq.pop he6_ he7_ he8_).1), ((hq.pop he6_ he7_ he8_).2)⟩, S20_, H22_⟩

set_option maxHeartbeats 400000 in
theorem qPeek (R : HP) (nb mb : Nat) (v : Value) (q : List Nd) (m : List (Int × Value)) (hq : QI q m) (hn : q.length ≤ 80000) :
    Tri Try.prog 34 #[(Value.pointer (some ⟨nb, 0, none⟩))] R [cl nb 135 [(Value.map (some mb)), v], sl 77 1 v (List.length q) (ptrs q), fam 137 (encs q), mp (Value.int .i64) mb m] (fun v__ post__ => (v__ = (Value.pointer none) ∧ post__ = [cl nb 135 [(Value.map (some mb)), v], sl 77 1 v (List.length q) (ptrs q), fam 137 (encs q), mp (Value.int .i64) mb m] ∧ (q = [])) ∨ (∃ (x : Nd), v__ = (Value.pointer (some ⟨x.b, 0, none⟩)) ∧ post__ = [cl nb 135 [(Value.map (some mb)), v], sl 77 1 v (List.length q) (ptrs q), fam 137 (encs q), mp (Value.int .i64) mb m] ∧ (q[0]? = some x))) := by
  refine Tri.into (n := 12) (al := [(Value.pointer (some ⟨nb, 0, none⟩))]) Try.func34 rfl Try.ntmps34 rfl rfl fun w F H => ?_
  replace H : Holds w (ro R :: cl nb 135 [(Value.map (some mb)), v] :: sl 77 1 v (List.length q) (ptrs q) :: fam 137 (encs q) :: mp (Value.int .i64) mb m :: F) := H
  refine C_seq (fun K1_ hK1_ => ?_)
  refine C_reg ?_
  refine S_list (T_val (v := (Value.pointer none)) (x_assign rfl) ?_)
  refine wpList_nil ?_
  refine (X_then (hK1_ _ _ ?_))
  clear hK1_
  refine C_seq (fun K2_ hK2_ => ?_)
  refine C_seq (fun K3_ hK3_ => ?_)
  refine C_reg ?_
  refine S_list (T_val (v := (Value.pointer (some ⟨nb, 0, none⟩))) (x_move rfl) ?_)
  refine S_list (T_callW (al := [(Value.pointer (some ⟨nb, 0, none⟩))]) rfl rfl cb37 (Calls.into (n := 8) (al := [(Value.pointer (some ⟨nb, 0, none⟩))]) Try.func37 rfl Try.ntmps37 rfl rfl ?_))
  refine C_seq (fun K4_ hK4_ => ?_)
  refine C_reg ?_
  refine S_list (T_val (v := (Value.int .i64 0)) (x_assign rfl) ?_)
  refine wpList_nil ?_
  refine (X_then (hK4_ _ _ ?_))
  clear hK4_
  refine C_seq (fun K5_ hK5_ => ?_)
  refine C_reg ?_
  refine S_list (T_val (v := (Value.pointer (some ⟨nb, 0, none⟩))) (x_move rfl) ?_)
  refine S_list (T_val (v := (Value.pointer (some ⟨nb, 0, none⟩))) (by kernel_rfl) ?_)
  refine S_list (T_val (v := (Value.pointer (some ⟨nb, 0, none⟩))) (by kernel_rfl) ?_)
  refine S_list (T_val (v := (Value.map (some mb))) (x_load1 rfl Try.underlying131 rfl ((Holds.rd H 1 rfl) 0 (Value.map (some mb)) rfl)) ?_)
  refine S_list (T_val (v := (Value.int .i64 (List.length m : Int))) (x_lenMp (K := (Value.int .i64)) rfl Try.underlying131 (Holds.mprd H 4 rfl)) ?_)
  refine S_list (T_val (v := (Value.int .i64 (List.length m : Int))) (x_assign rfl) ?_)
  refine wpList_nil ?_
  refine (X_then (hK5_ _ _ ?_))
  clear hK5_
  refine C_ret ?_
  refine R_any (v := (Value.int .i64 (List.length m : Int))) (run_results1 rfl rfl) ⟨_, rfl, ?_⟩
  refine S_list (T_val (v := (Value.bool (decide ((List.length m : Int) = 0)))) (x_bin rfl rfl rfl) ?_)
  refine wpList_nil ?_
  refine (X_then (hK3_ _ _ ?_))
  clear hK3_
  refine C_cond (b := decide ((List.length m : Int) = 0)) rfl (fun c6_t => ?_) (fun c6_f => ?_)
  · have c6_tp : (List.length m : Int) = 0 := of_decide_eq_true c6_t
    refine C_seq (fun K7_ hK7_ => ?_)
    refine C_reg ?_
    refine S_list (T_val (v := (Value.pointer none)) (x_assign rfl) ?_)
    refine wpList_nil ?_
    refine (X_then (hK7_ _ _ ?_))
    clear hK7_
    refine C_ret (X_thenR ?_)
    refine R_any (v := (Value.pointer none)) (run_results1 rfl rfl) ?_
    exact ⟨_, [cl nb 135 [(Value.map (some mb)), v], sl 77 1 v (List.length q) (ptrs q), fam 137 (encs q), mp (Value.int .i64) mb m], rfl, (.inl ⟨rfl, rfl, (List.eq_nil_of_length_eq_zero (by have := hq.ml; omega))⟩), (Same.refl w), H⟩
  · have c6_fp : ¬ ((List.length m : Int) = 0) := of_decide_eq_false c6_f
    refine C_skip (X_then (hK2_ _ _ ?_))
    clear hK2_
    refine C_seq (fun K8_ hK8_ => ?_)
    refine C_reg ?_
    refine S_list (T_val (v := (Value.pointer (some ⟨nb, 0, none⟩))) (x_move rfl) ?_)
    refine S_list (T_val (v := (Value.pointer (some ⟨nb, 0, none⟩))) (by kernel_rfl) ?_)
    refine S_list (T_val (v := (Value.pointer (some ⟨nb, 1, none⟩))) (by kernel_rfl) ?_)
    refine S_list (T_val (v := v) (x_load1 rfl Try.underlying133 rfl ((Holds.rd H 1 rfl) 1 v rfl)) ?_)
    have hr9_ := Holds.sl_RSw H 2 rfl
    refine S_list (T_val (v := (Value.pointer (some ⟨(sb v), so v + 0, none⟩))) (x_idxSlR (v := v) rfl hr9_ rfl Try.underlying133 z77 (by omega) (by have := hq.ml; omega) (by omega : _ = 0) (by rw [Nat.mul_one])) ?_)
    obtain ⟨x10_, hx11_, hm12_⟩ := elem_at q 0 (by have := hq.ml; omega)
    refine S_list (T_val (v := (Value.pointer (some ⟨x10_.b, 0, none⟩))) (x_load1 rfl Try.underlying77 rfl ((Holds.slrd H 2 rfl) _ _ (ptrs_at hx11_))) ?_)
    refine S_list (T_val (v := (Value.pointer (some ⟨x10_.b, 0, none⟩))) (x_assign rfl) ?_)
    refine wpList_nil ?_
    refine (X_then (hK8_ _ _ ?_))
    clear hK8_
    refine C_ret ?_
    refine R_any (v := (Value.pointer (some ⟨x10_.b, 0, none⟩))) (run_results1 rfl rfl) ?_
    exact ⟨_, [cl nb 135 [(Value.map (some mb)), v], sl 77 1 v (List.length q) (ptrs q), fam 137 (encs q), mp (Value.int .i64) mb m], rfl, (.inr ⟨x10_, rfl, rfl, (hx11_)⟩), (Same.refl w), H⟩
end Go.Proofs.Ytgeggiebefonhaa
