/- What the functions over transactions come to: the kinds, the reference, the guard and the law. -/
import Derived.Test.YtfdnfnjmphjdnaaKdC0
set_option linter.unusedVariables false
set_option linter.unusedSimpArgs false
namespace Go.Proofs.Ytfdnfnjmphjdnaa
open Go Go.RowKit Gw

theorem one_req {R : HP} {l : List ReqS} (h : ∀ x ∈ l, ReqG R x) : ∀ u ∈ l.flatMap ReqS.cells, u.oneCell' = true := by
  intro u hu
  obtain ⟨x, hx, hu⟩ := List.mem_flatMap.1 hu
  have hx := h x hx
  cases hx with
  | mk q cc tt ee h1 h2 hL hb ht he =>
    simp only [ReqS.cells, List.mem_cons, List.not_mem_nil, or_false] at hu
    rcases hu with rfl | rfl | rfl | rfl | rfl | rfl | rfl | rfl | rfl | rfl | rfl | rfl | rfl | rfl | rfl | rfl | rfl | rfl | rfl | rfl | rfl
    all_goals rfl
theorem forall_idx {α : Type} {p : α → Prop} {l : List α} (h : ∀ (i : Nat) (y : α), i < l.length → l[i]? = some y → p y) : ∀ x ∈ l, p x := by
  intro x hx
  obtain ⟨i, hi, e⟩ := List.getElem_of_mem hx
  exact h i x hi (by rw [List.getElem?_eq_getElem hi, e])
/-- What a request is that laws speak of. -/
def Good1 (R : HP) (q : ReqS) (cc : List CmpS) (tt ee : List ReqS) : Prop :=
  1 ≤ q.kind ∧ q.kind ≤ 4 ∧ (q.kind = 4 → (cc.length ≤ 8 ∧ tt.length ≤ 16 ∧ ee.length ≤ 16) ∧ (∀ x ∈ tt, ReqG R x) ∧ (∀ x ∈ ee, ReqG R x))
theorem Good1.req {R : HP} {q : ReqS} {cc : List CmpS} {tt ee : List ReqS} (h : Good1 R q cc tt ee) (hL : Lists R q cc tt ee) : ReqG R q :=
  .mk q cc tt ee h.1 h.2.1 hL (fun h4 => (h.2.2 h4).1) (fun h4 => (h.2.2 h4).2.1) (fun h4 => (h.2.2 h4).2.2)

set_option maxHeartbeats 400000 in
theorem kIsReadonly (R : HP) (q : ReqS) (cc : List CmpS) (tt ee : List ReqS) (hL : Lists R q cc tt ee) (hb : cc.length ≤ 8 ∧ tt.length ≤ 16 ∧ ee.length ≤ 16) (ht : ∀ x ∈ tt, ReqG R x) (he : ∀ x ∈ ee, ReqG R x) :
    Tri Try.prog 19 #[(Value.agg #[(Value.int .i64 q.kind), (Value.string q.key), (Value.string q.en), (Value.string q.val), (Value.int .i64 q.lease), (Value.int .i64 q.rev), (Value.int .i64 q.limit), (Value.int .i64 q.order), (Value.int .i64 q.target), (Value.int .i64 q.minMod), (Value.int .i64 q.maxMod), (Value.int .i64 q.minCreate), (Value.int .i64 q.maxCreate), (Value.bool q.keysOnly), (Value.bool q.countOnly), (Value.bool q.prev), (Value.bool q.ignValue), (Value.bool q.ignLease), (Value.slice q.cA q.cN q.cC), (Value.slice q.tA q.tN q.tC), (Value.slice q.eA q.eN q.eC)])] R [] (fun v post => v = .bool (rdo tt && rdo ee) ∧ post = []) := by
  obtain ⟨hb1, hb2, hb3⟩ := id hb
  refine Tri.into (n := 6) (al := [(Value.agg #[(Value.int .i64 q.kind), (Value.string q.key), (Value.string q.en), (Value.string q.val), (Value.int .i64 q.lease), (Value.int .i64 q.rev), (Value.int .i64 q.limit), (Value.int .i64 q.order), (Value.int .i64 q.target), (Value.int .i64 q.minMod), (Value.int .i64 q.maxMod), (Value.int .i64 q.minCreate), (Value.int .i64 q.maxCreate), (Value.bool q.keysOnly), (Value.bool q.countOnly), (Value.bool q.prev), (Value.bool q.ignValue), (Value.bool q.ignLease), (Value.slice q.cA q.cN q.cC), (Value.slice q.tA q.tN q.tC), (Value.slice q.eA q.eN q.eC)])]) Try.func19 rfl Try.ntmps19 rfl rfl fun w F H => ?_
  replace H : Holds w (ro R :: F) := H
  refine C_seq (fun K1_ hK1_ => ?_)
  refine C_reg ?_
  refine S_list (T_box (v := (Value.agg #[(Value.int .i64 q.kind), (Value.string q.key), (Value.string q.en), (Value.string q.val), (Value.int .i64 q.lease), (Value.int .i64 q.rev), (Value.int .i64 q.limit), (Value.int .i64 q.order), (Value.int .i64 q.target), (Value.int .i64 q.minMod), (Value.int .i64 q.maxMod), (Value.int .i64 q.minCreate), (Value.int .i64 q.maxCreate), (Value.bool q.keysOnly), (Value.bool q.countOnly), (Value.bool q.prev), (Value.bool q.ignValue), (Value.bool q.ignLease), (Value.slice q.cA q.cN q.cC), (Value.slice q.tA q.tN q.tC), (Value.slice q.eA q.eN q.eC)])) rfl H ?_)
  intro b2_ w3_ S5_ H4_
  replace H4_ : Holds w3_ (cl b2_ 40 [(Value.int .i64 q.kind), (Value.string q.key), (Value.string q.en), (Value.string q.val), (Value.int .i64 q.lease), (Value.int .i64 q.rev), (Value.int .i64 q.limit), (Value.int .i64 q.order), (Value.int .i64 q.target), (Value.int .i64 q.minMod), (Value.int .i64 q.maxMod), (Value.int .i64 q.minCreate), (Value.int .i64 q.maxCreate), (Value.bool q.keysOnly), (Value.bool q.countOnly), (Value.bool q.prev), (Value.bool q.ignValue), (Value.bool q.ignLease), (Value.slice q.cA q.cN q.cC), (Value.slice q.tA q.tN q.tC), (Value.slice q.eA q.eN q.eC)] :: ro R :: F) := H4_
  have S6_ := Same.trans (Same.refl w) S5_
  refine S_list (T_val (v := (Value.bool false)) (x_assign rfl) ?_)
  refine wpList_nil ?_
  refine (X_then (hK1_ _ _ ?_))
  clear hK1_
  refine C_seq (fun K7_ hK7_ => ?_)
  refine C_reg ?_
  refine S_list (T_val (v := (Value.agg #[(Value.int .i64 q.kind), (Value.string q.key), (Value.string q.en), (Value.string q.val), (Value.int .i64 q.lease), (Value.int .i64 q.rev), (Value.int .i64 q.limit), (Value.int .i64 q.order), (Value.int .i64 q.target), (Value.int .i64 q.minMod), (Value.int .i64 q.maxMod), (Value.int .i64 q.minCreate), (Value.int .i64 q.maxCreate), (Value.bool q.keysOnly), (Value.bool q.countOnly), (Value.bool q.prev), (Value.bool q.ignValue), (Value.bool q.ignLease), (Value.slice q.cA q.cN q.cC), (Value.slice q.tA q.tN q.tC), (Value.slice q.eA q.eN q.eC)])) (x_loadN (vs := [(Value.int .i64 q.kind), (Value.string q.key), (Value.string q.en), (Value.string q.val), (Value.int .i64 q.lease), (Value.int .i64 q.rev), (Value.int .i64 q.limit), (Value.int .i64 q.order), (Value.int .i64 q.target), (Value.int .i64 q.minMod), (Value.int .i64 q.maxMod), (Value.int .i64 q.minCreate), (Value.int .i64 q.maxCreate), (Value.bool q.keysOnly), (Value.bool q.countOnly), (Value.bool q.prev), (Value.bool q.ignValue), (Value.bool q.ignLease), (Value.slice q.cA q.cN q.cC), (Value.slice q.tA q.tN q.tC), (Value.slice q.eA q.eN q.eC)]) rfl Try.underlying40 rfl z40 rfl (Rd.cells (Holds.rd H4_ 0 rfl) 0 rfl)) ?_)
  have H20_ : Holds w3_ (ro R :: cl b2_ 40 [(Value.int .i64 q.kind), (Value.string q.key), (Value.string q.en), (Value.string q.val), (Value.int .i64 q.lease), (Value.int .i64 q.rev), (Value.int .i64 q.limit), (Value.int .i64 q.order), (Value.int .i64 q.target), (Value.int .i64 q.minMod), (Value.int .i64 q.maxMod), (Value.int .i64 q.minCreate), (Value.int .i64 q.maxCreate), (Value.bool q.keysOnly), (Value.bool q.countOnly), (Value.bool q.prev), (Value.bool q.ignValue), (Value.bool q.ignLease), (Value.slice q.cA q.cN q.cC), (Value.slice q.tA q.tN q.tC), (Value.slice q.eA q.eN q.eC)] :: F) := (Holds.bring H4_ 1 rfl)
  refine S_list (T_call (al := [(Value.agg #[(Value.int .i64 q.kind), (Value.string q.key), (Value.string q.en), (Value.string q.val), (Value.int .i64 q.lease), (Value.int .i64 q.rev), (Value.int .i64 q.limit), (Value.int .i64 q.order), (Value.int .i64 q.target), (Value.int .i64 q.minMod), (Value.int .i64 q.maxMod), (Value.int .i64 q.minCreate), (Value.int .i64 q.maxCreate), (Value.bool q.keysOnly), (Value.bool q.countOnly), (Value.bool q.prev), (Value.bool q.ignValue), (Value.bool q.ignLease), (Value.slice q.cA q.cN q.cC), (Value.slice q.tA q.tN q.tC), (Value.slice q.eA q.eN q.eC)])]) (pre := []) (F := cl b2_ 40 [(Value.int .i64 q.kind), (Value.string q.key), (Value.string q.en), (Value.string q.val), (Value.int .i64 q.lease), (Value.int .i64 q.rev), (Value.int .i64 q.limit), (Value.int .i64 q.order), (Value.int .i64 q.target), (Value.int .i64 q.minMod), (Value.int .i64 q.maxMod), (Value.int .i64 q.minCreate), (Value.int .i64 q.maxCreate), (Value.bool q.keysOnly), (Value.bool q.countOnly), (Value.bool q.prev), (Value.bool q.ignValue), (Value.bool q.ignLease), (Value.slice q.cA q.cN q.cC), (Value.slice q.tA q.tN q.tC), (Value.slice q.eA q.eN q.eC)] :: F) rfl rfl cb43 (kTxnIn R q cc tt ee hL hb ht he) H20_ ?_)
  rintro v24_ p25_ w21_ ⟨b8_, C9_, vt10_, ve11_, R12_, pt13_, pe14_, rfl, hb15_, ht16_, he17_, hot18_, hoe19_, rfl⟩ S23_ H22_
  replace H22_ : Holds w21_ (ro R :: ro R12_ :: cl b2_ 40 [(Value.int .i64 q.kind), (Value.string q.key), (Value.string q.en), (Value.string q.val), (Value.int .i64 q.lease), (Value.int .i64 q.rev), (Value.int .i64 q.limit), (Value.int .i64 q.order), (Value.int .i64 q.target), (Value.int .i64 q.minMod), (Value.int .i64 q.maxMod), (Value.int .i64 q.minCreate), (Value.int .i64 q.maxCreate), (Value.bool q.keysOnly), (Value.bool q.countOnly), (Value.bool q.prev), (Value.bool q.ignValue), (Value.bool q.ignLease), (Value.slice q.cA q.cN q.cC), (Value.slice q.tA q.tN q.tC), (Value.slice q.eA q.eN q.eC)] :: F) := H22_
  have S26_ := Same.trans S6_ S23_
  have H27_ : Holds w21_ (ro R12_ :: ro R :: cl b2_ 40 [(Value.int .i64 q.kind), (Value.string q.key), (Value.string q.en), (Value.string q.val), (Value.int .i64 q.lease), (Value.int .i64 q.rev), (Value.int .i64 q.limit), (Value.int .i64 q.order), (Value.int .i64 q.target), (Value.int .i64 q.minMod), (Value.int .i64 q.maxMod), (Value.int .i64 q.minCreate), (Value.int .i64 q.maxCreate), (Value.bool q.keysOnly), (Value.bool q.countOnly), (Value.bool q.prev), (Value.bool q.ignValue), (Value.bool q.ignLease), (Value.slice q.cA q.cN q.cC), (Value.slice q.tA q.tN q.tC), (Value.slice q.eA q.eN q.eC)] :: F) := (Holds.bring H22_ 1 rfl)
  refine S_list (T_call (al := [(Value.pointer (some ⟨b8_, 0, none⟩))]) (pre := []) (F := ro R :: cl b2_ 40 [(Value.int .i64 q.kind), (Value.string q.key), (Value.string q.en), (Value.string q.val), (Value.int .i64 q.lease), (Value.int .i64 q.rev), (Value.int .i64 q.limit), (Value.int .i64 q.order), (Value.int .i64 q.target), (Value.int .i64 q.minMod), (Value.int .i64 q.maxMod), (Value.int .i64 q.minCreate), (Value.int .i64 q.maxCreate), (Value.bool q.keysOnly), (Value.bool q.countOnly), (Value.bool q.prev), (Value.bool q.ignValue), (Value.bool q.ignLease), (Value.slice q.cA q.cN q.cC), (Value.slice q.tA q.tN q.tC), (Value.slice q.eA q.eN q.eC)] :: F) rfl rfl cb42 (kIsRead R12_ b8_ C9_ vt10_ ve11_ pt13_ pe14_ tt ee hb15_ ht16_ he17_ hot18_ hoe19_ (by omega) (by omega)) H27_ ?_)
  rintro v31_ p32_ w28_ ⟨rfl, rfl⟩ S30_ H29_
  replace H29_ : Holds w28_ (ro R12_ :: ro R :: cl b2_ 40 [(Value.int .i64 q.kind), (Value.string q.key), (Value.string q.en), (Value.string q.val), (Value.int .i64 q.lease), (Value.int .i64 q.rev), (Value.int .i64 q.limit), (Value.int .i64 q.order), (Value.int .i64 q.target), (Value.int .i64 q.minMod), (Value.int .i64 q.maxMod), (Value.int .i64 q.minCreate), (Value.int .i64 q.maxCreate), (Value.bool q.keysOnly), (Value.bool q.countOnly), (Value.bool q.prev), (Value.bool q.ignValue), (Value.bool q.ignLease), (Value.slice q.cA q.cN q.cC), (Value.slice q.tA q.tN q.tC), (Value.slice q.eA q.eN q.eC)] :: F) := H29_
  have S33_ := Same.trans S26_ S30_
  refine S_list (T_val (v := (Value.bool (rdo tt && rdo ee))) (x_assign rfl) ?_)
  refine wpList_nil ?_
  refine (X_then (hK7_ _ _ ?_))
  clear hK7_
  refine C_ret ?_
  refine R_any (v := (Value.bool (rdo tt && rdo ee))) (run_results1 rfl rfl) ?_
  have H34_ : Holds w28_ (ro R :: F) := (Holds.erase (Holds.erase (Holds.bring H29_ 1 rfl) 1) 1)
  exact ⟨_, [], rfl, ⟨rfl, rfl⟩, S33_, H34_⟩

set_option maxHeartbeats 400000 in
theorem kIsSerializable (R : HP) (q : ReqS) (cc : List CmpS) (tt ee : List ReqS) (hL : Lists R q cc tt ee) (hb : cc.length ≤ 8 ∧ tt.length ≤ 16 ∧ ee.length ≤ 16) (ht : ∀ x ∈ tt, ReqG R x) (he : ∀ x ∈ ee, ReqG R x) :
    Tri Try.prog 21 #[(Value.agg #[(Value.int .i64 q.kind), (Value.string q.key), (Value.string q.en), (Value.string q.val), (Value.int .i64 q.lease), (Value.int .i64 q.rev), (Value.int .i64 q.limit), (Value.int .i64 q.order), (Value.int .i64 q.target), (Value.int .i64 q.minMod), (Value.int .i64 q.maxMod), (Value.int .i64 q.minCreate), (Value.int .i64 q.maxCreate), (Value.bool q.keysOnly), (Value.bool q.countOnly), (Value.bool q.prev), (Value.bool q.ignValue), (Value.bool q.ignLease), (Value.slice q.cA q.cN q.cC), (Value.slice q.tA q.tN q.tC), (Value.slice q.eA q.eN q.eC)])] R [] (fun v post => v = .bool (srl tt && srl ee) ∧ post = []) := by
  obtain ⟨hb1, hb2, hb3⟩ := id hb
  refine Tri.into (n := 6) (al := [(Value.agg #[(Value.int .i64 q.kind), (Value.string q.key), (Value.string q.en), (Value.string q.val), (Value.int .i64 q.lease), (Value.int .i64 q.rev), (Value.int .i64 q.limit), (Value.int .i64 q.order), (Value.int .i64 q.target), (Value.int .i64 q.minMod), (Value.int .i64 q.maxMod), (Value.int .i64 q.minCreate), (Value.int .i64 q.maxCreate), (Value.bool q.keysOnly), (Value.bool q.countOnly), (Value.bool q.prev), (Value.bool q.ignValue), (Value.bool q.ignLease), (Value.slice q.cA q.cN q.cC), (Value.slice q.tA q.tN q.tC), (Value.slice q.eA q.eN q.eC)])]) Try.func21 rfl Try.ntmps21 rfl rfl fun w F H => ?_
  replace H : Holds w (ro R :: F) := H
  refine C_seq (fun K1_ hK1_ => ?_)
  refine C_reg ?_
  refine S_list (T_box (v := (Value.agg #[(Value.int .i64 q.kind), (Value.string q.key), (Value.string q.en), (Value.string q.val), (Value.int .i64 q.lease), (Value.int .i64 q.rev), (Value.int .i64 q.limit), (Value.int .i64 q.order), (Value.int .i64 q.target), (Value.int .i64 q.minMod), (Value.int .i64 q.maxMod), (Value.int .i64 q.minCreate), (Value.int .i64 q.maxCreate), (Value.bool q.keysOnly), (Value.bool q.countOnly), (Value.bool q.prev), (Value.bool q.ignValue), (Value.bool q.ignLease), (Value.slice q.cA q.cN q.cC), (Value.slice q.tA q.tN q.tC), (Value.slice q.eA q.eN q.eC)])) rfl H ?_)
  intro b2_ w3_ S5_ H4_
  replace H4_ : Holds w3_ (cl b2_ 40 [(Value.int .i64 q.kind), (Value.string q.key), (Value.string q.en), (Value.string q.val), (Value.int .i64 q.lease), (Value.int .i64 q.rev), (Value.int .i64 q.limit), (Value.int .i64 q.order), (Value.int .i64 q.target), (Value.int .i64 q.minMod), (Value.int .i64 q.maxMod), (Value.int .i64 q.minCreate), (Value.int .i64 q.maxCreate), (Value.bool q.keysOnly), (Value.bool q.countOnly), (Value.bool q.prev), (Value.bool q.ignValue), (Value.bool q.ignLease), (Value.slice q.cA q.cN q.cC), (Value.slice q.tA q.tN q.tC), (Value.slice q.eA q.eN q.eC)] :: ro R :: F) := H4_
  have S6_ := Same.trans (Same.refl w) S5_
  refine S_list (T_val (v := (Value.bool false)) (x_assign rfl) ?_)
  refine wpList_nil ?_
  refine (X_then (hK1_ _ _ ?_))
  clear hK1_
  refine C_seq (fun K7_ hK7_ => ?_)
  refine C_reg ?_
  refine S_list (T_val (v := (Value.agg #[(Value.int .i64 q.kind), (Value.string q.key), (Value.string q.en), (Value.string q.val), (Value.int .i64 q.lease), (Value.int .i64 q.rev), (Value.int .i64 q.limit), (Value.int .i64 q.order), (Value.int .i64 q.target), (Value.int .i64 q.minMod), (Value.int .i64 q.maxMod), (Value.int .i64 q.minCreate), (Value.int .i64 q.maxCreate), (Value.bool q.keysOnly), (Value.bool q.countOnly), (Value.bool q.prev), (Value.bool q.ignValue), (Value.bool q.ignLease), (Value.slice q.cA q.cN q.cC), (Value.slice q.tA q.tN q.tC), (Value.slice q.eA q.eN q.eC)])) (x_loadN (vs := [(Value.int .i64 q.kind), (Value.string q.key), (Value.string q.en), (Value.string q.val), (Value.int .i64 q.lease), (Value.int .i64 q.rev), (Value.int .i64 q.limit), (Value.int .i64 q.order), (Value.int .i64 q.target), (Value.int .i64 q.minMod), (Value.int .i64 q.maxMod), (Value.int .i64 q.minCreate), (Value.int .i64 q.maxCreate), (Value.bool q.keysOnly), (Value.bool q.countOnly), (Value.bool q.prev), (Value.bool q.ignValue), (Value.bool q.ignLease), (Value.slice q.cA q.cN q.cC), (Value.slice q.tA q.tN q.tC), (Value.slice q.eA q.eN q.eC)]) rfl Try.underlying40 rfl z40 rfl (Rd.cells (Holds.rd H4_ 0 rfl) 0 rfl)) ?_)
  have H20_ : Holds w3_ (ro R :: cl b2_ 40 [(Value.int .i64 q.kind), (Value.string q.key), (Value.string q.en), (Value.string q.val), (Value.int .i64 q.lease), (Value.int .i64 q.rev), (Value.int .i64 q.limit), (Value.int .i64 q.order), (Value.int .i64 q.target), (Value.int .i64 q.minMod), (Value.int .i64 q.maxMod), (Value.int .i64 q.minCreate), (Value.int .i64 q.maxCreate), (Value.bool q.keysOnly), (Value.bool q.countOnly), (Value.bool q.prev), (Value.bool q.ignValue), (Value.bool q.ignLease), (Value.slice q.cA q.cN q.cC), (Value.slice q.tA q.tN q.tC), (Value.slice q.eA q.eN q.eC)] :: F) := (Holds.bring H4_ 1 rfl)
  refine S_list (T_call (al := [(Value.agg #[(Value.int .i64 q.kind), (Value.string q.key), (Value.string q.en), (Value.string q.val), (Value.int .i64 q.lease), (Value.int .i64 q.rev), (Value.int .i64 q.limit), (Value.int .i64 q.order), (Value.int .i64 q.target), (Value.int .i64 q.minMod), (Value.int .i64 q.maxMod), (Value.int .i64 q.minCreate), (Value.int .i64 q.maxCreate), (Value.bool q.keysOnly), (Value.bool q.countOnly), (Value.bool q.prev), (Value.bool q.ignValue), (Value.bool q.ignLease), (Value.slice q.cA q.cN q.cC), (Value.slice q.tA q.tN q.tC), (Value.slice q.eA q.eN q.eC)])]) (pre := []) (F := cl b2_ 40 [(Value.int .i64 q.kind), (Value.string q.key), (Value.string q.en), (Value.string q.val), (Value.int .i64 q.lease), (Value.int .i64 q.rev), (Value.int .i64 q.limit), (Value.int .i64 q.order), (Value.int .i64 q.target), (Value.int .i64 q.minMod), (Value.int .i64 q.maxMod), (Value.int .i64 q.minCreate), (Value.int .i64 q.maxCreate), (Value.bool q.keysOnly), (Value.bool q.countOnly), (Value.bool q.prev), (Value.bool q.ignValue), (Value.bool q.ignLease), (Value.slice q.cA q.cN q.cC), (Value.slice q.tA q.tN q.tC), (Value.slice q.eA q.eN q.eC)] :: F) rfl rfl cb43 (kTxnIn R q cc tt ee hL hb ht he) H20_ ?_)
  rintro v24_ p25_ w21_ ⟨b8_, C9_, vt10_, ve11_, R12_, pt13_, pe14_, rfl, hb15_, ht16_, he17_, hot18_, hoe19_, rfl⟩ S23_ H22_
  replace H22_ : Holds w21_ (ro R :: ro R12_ :: cl b2_ 40 [(Value.int .i64 q.kind), (Value.string q.key), (Value.string q.en), (Value.string q.val), (Value.int .i64 q.lease), (Value.int .i64 q.rev), (Value.int .i64 q.limit), (Value.int .i64 q.order), (Value.int .i64 q.target), (Value.int .i64 q.minMod), (Value.int .i64 q.maxMod), (Value.int .i64 q.minCreate), (Value.int .i64 q.maxCreate), (Value.bool q.keysOnly), (Value.bool q.countOnly), (Value.bool q.prev), (Value.bool q.ignValue), (Value.bool q.ignLease), (Value.slice q.cA q.cN q.cC), (Value.slice q.tA q.tN q.tC), (Value.slice q.eA q.eN q.eC)] :: F) := H22_
  have S26_ := Same.trans S6_ S23_
  have H27_ : Holds w21_ (ro R12_ :: ro R :: cl b2_ 40 [(Value.int .i64 q.kind), (Value.string q.key), (Value.string q.en), (Value.string q.val), (Value.int .i64 q.lease), (Value.int .i64 q.rev), (Value.int .i64 q.limit), (Value.int .i64 q.order), (Value.int .i64 q.target), (Value.int .i64 q.minMod), (Value.int .i64 q.maxMod), (Value.int .i64 q.minCreate), (Value.int .i64 q.maxCreate), (Value.bool q.keysOnly), (Value.bool q.countOnly), (Value.bool q.prev), (Value.bool q.ignValue), (Value.bool q.ignLease), (Value.slice q.cA q.cN q.cC), (Value.slice q.tA q.tN q.tC), (Value.slice q.eA q.eN q.eC)] :: F) := (Holds.bring H22_ 1 rfl)
  refine S_list (T_call (al := [(Value.pointer (some ⟨b8_, 0, none⟩))]) (pre := []) (F := ro R :: cl b2_ 40 [(Value.int .i64 q.kind), (Value.string q.key), (Value.string q.en), (Value.string q.val), (Value.int .i64 q.lease), (Value.int .i64 q.rev), (Value.int .i64 q.limit), (Value.int .i64 q.order), (Value.int .i64 q.target), (Value.int .i64 q.minMod), (Value.int .i64 q.maxMod), (Value.int .i64 q.minCreate), (Value.int .i64 q.maxCreate), (Value.bool q.keysOnly), (Value.bool q.countOnly), (Value.bool q.prev), (Value.bool q.ignValue), (Value.bool q.ignLease), (Value.slice q.cA q.cN q.cC), (Value.slice q.tA q.tN q.tC), (Value.slice q.eA q.eN q.eC)] :: F) rfl rfl cb44 (kIsSer R12_ b8_ C9_ vt10_ ve11_ pt13_ pe14_ tt ee hb15_ ht16_ he17_ hot18_ hoe19_ (by omega) (by omega)) H27_ ?_)
  rintro v31_ p32_ w28_ ⟨rfl, rfl⟩ S30_ H29_
  replace H29_ : Holds w28_ (ro R12_ :: ro R :: cl b2_ 40 [(Value.int .i64 q.kind), (Value.string q.key), (Value.string q.en), (Value.string q.val), (Value.int .i64 q.lease), (Value.int .i64 q.rev), (Value.int .i64 q.limit), (Value.int .i64 q.order), (Value.int .i64 q.target), (Value.int .i64 q.minMod), (Value.int .i64 q.maxMod), (Value.int .i64 q.minCreate), (Value.int .i64 q.maxCreate), (Value.bool q.keysOnly), (Value.bool q.countOnly), (Value.bool q.prev), (Value.bool q.ignValue), (Value.bool q.ignLease), (Value.slice q.cA q.cN q.cC), (Value.slice q.tA q.tN q.tC), (Value.slice q.eA q.eN q.eC)] :: F) := H29_
  have S33_ := Same.trans S26_ S30_
  refine S_list (T_val (v := (Value.bool (srl tt && srl ee))) (x_assign rfl) ?_)
  refine wpList_nil ?_
  refine (X_then (hK7_ _ _ ?_))
  clear hK7_
  refine C_ret ?_
  refine R_any (v := (Value.bool (srl tt && srl ee))) (run_results1 rfl rfl) ?_
  have H34_ : Holds w28_ (ro R :: F) := (Holds.erase (Holds.erase (Holds.bring H29_ 1 rfl) 1) 1)
  exact ⟨_, [], rfl, ⟨rfl, rfl⟩, S33_, H34_⟩

set_option maxHeartbeats 400000 in
theorem kSpecRead (R : HP) (q : ReqS) (cc : List CmpS) (tt ee : List ReqS) (hL : Lists R q cc tt ee) (hb : cc.length ≤ 8 ∧ tt.length ≤ 16 ∧ ee.length ≤ 16) (ht : ∀ x ∈ tt, ReqG R x) (he : ∀ x ∈ ee, ReqG R x) :
    Tri Try.prog 20 #[(Value.agg #[(Value.int .i64 q.kind), (Value.string q.key), (Value.string q.en), (Value.string q.val), (Value.int .i64 q.lease), (Value.int .i64 q.rev), (Value.int .i64 q.limit), (Value.int .i64 q.order), (Value.int .i64 q.target), (Value.int .i64 q.minMod), (Value.int .i64 q.maxMod), (Value.int .i64 q.minCreate), (Value.int .i64 q.maxCreate), (Value.bool q.keysOnly), (Value.bool q.countOnly), (Value.bool q.prev), (Value.bool q.ignValue), (Value.bool q.ignLease), (Value.slice q.cA q.cN q.cC), (Value.slice q.tA q.tN q.tC), (Value.slice q.eA q.eN q.eC)])] R [] (fun v post => v = .bool (rdo tt && rdo ee) ∧ post = []) := by
  obtain ⟨hb1, hb2, hb3⟩ := id hb
  refine Tri.into (n := 24) (al := [(Value.agg #[(Value.int .i64 q.kind), (Value.string q.key), (Value.string q.en), (Value.string q.val), (Value.int .i64 q.lease), (Value.int .i64 q.rev), (Value.int .i64 q.limit), (Value.int .i64 q.order), (Value.int .i64 q.target), (Value.int .i64 q.minMod), (Value.int .i64 q.maxMod), (Value.int .i64 q.minCreate), (Value.int .i64 q.maxCreate), (Value.bool q.keysOnly), (Value.bool q.countOnly), (Value.bool q.prev), (Value.bool q.ignValue), (Value.bool q.ignLease), (Value.slice q.cA q.cN q.cC), (Value.slice q.tA q.tN q.tC), (Value.slice q.eA q.eN q.eC)])]) Try.func20 rfl Try.ntmps20 rfl rfl fun w F H => ?_
  replace H : Holds w (ro R :: F) := H
  refine C_seq (fun K1_ hK1_ => ?_)
  refine C_reg ?_
  refine S_list (T_box (v := (Value.agg #[(Value.int .i64 q.kind), (Value.string q.key), (Value.string q.en), (Value.string q.val), (Value.int .i64 q.lease), (Value.int .i64 q.rev), (Value.int .i64 q.limit), (Value.int .i64 q.order), (Value.int .i64 q.target), (Value.int .i64 q.minMod), (Value.int .i64 q.maxMod), (Value.int .i64 q.minCreate), (Value.int .i64 q.maxCreate), (Value.bool q.keysOnly), (Value.bool q.countOnly), (Value.bool q.prev), (Value.bool q.ignValue), (Value.bool q.ignLease), (Value.slice q.cA q.cN q.cC), (Value.slice q.tA q.tN q.tC), (Value.slice q.eA q.eN q.eC)])) rfl H ?_)
  intro b2_ w3_ S5_ H4_
  replace H4_ : Holds w3_ (cl b2_ 40 [(Value.int .i64 q.kind), (Value.string q.key), (Value.string q.en), (Value.string q.val), (Value.int .i64 q.lease), (Value.int .i64 q.rev), (Value.int .i64 q.limit), (Value.int .i64 q.order), (Value.int .i64 q.target), (Value.int .i64 q.minMod), (Value.int .i64 q.maxMod), (Value.int .i64 q.minCreate), (Value.int .i64 q.maxCreate), (Value.bool q.keysOnly), (Value.bool q.countOnly), (Value.bool q.prev), (Value.bool q.ignValue), (Value.bool q.ignLease), (Value.slice q.cA q.cN q.cC), (Value.slice q.tA q.tN q.tC), (Value.slice q.eA q.eN q.eC)] :: ro R :: F) := H4_
  have S6_ := Same.trans (Same.refl w) S5_
  refine S_list (T_val (v := (Value.bool false)) (x_assign rfl) ?_)
  refine wpList_nil ?_
  refine (X_then (hK1_ _ _ ?_))
  clear hK1_
  refine C_seq (fun K7_ hK7_ => ?_)
  refine A_start (S := fun w => Rd b2_ [(Value.int .i64 q.kind), (Value.string q.key), (Value.string q.en), (Value.string q.val), (Value.int .i64 q.lease), (Value.int .i64 q.rev), (Value.int .i64 q.limit), (Value.int .i64 q.order), (Value.int .i64 q.target), (Value.int .i64 q.minMod), (Value.int .i64 q.maxMod), (Value.int .i64 q.minCreate), (Value.int .i64 q.maxCreate), (Value.bool q.keysOnly), (Value.bool q.countOnly), (Value.bool q.prev), (Value.bool q.ignValue), (Value.bool q.ignLease), (Value.slice q.cA q.cN q.cC), (Value.slice q.tA q.tN q.tC), (Value.slice q.eA q.eN q.eC)] w ∧ Sub R (hp w)) (N := 8) foll rfl rfl ?_
  have H9_ : Holds w3_.drew (cl b2_ 40 [(Value.int .i64 q.kind), (Value.string q.key), (Value.string q.en), (Value.string q.val), (Value.int .i64 q.lease), (Value.int .i64 q.rev), (Value.int .i64 q.limit), (Value.int .i64 q.order), (Value.int .i64 q.target), (Value.int .i64 q.minMod), (Value.int .i64 q.maxMod), (Value.int .i64 q.minCreate), (Value.int .i64 q.maxCreate), (Value.bool q.keysOnly), (Value.bool q.countOnly), (Value.bool q.prev), (Value.bool q.ignValue), (Value.bool q.ignLease), (Value.slice q.cA q.cN q.cC), (Value.slice q.tA q.tN q.tC), (Value.slice q.eA q.eN q.eC)] :: ro R :: F) := H4_
  refine A_take 1 (ls' := #[false, true, false, false, false, false, false, false]) (v := (Value.pointer (some ⟨b2_, 19, none⟩))) rfl (by kernel_rfl) (by kernel_rfl) (by kernel_rfl) (by kernel_rfl) (fun _ _ _ h => h) (fun w hS => by kernel_rfl) ⟨Holds.rd H9_ 0 rfl, Holds.ro_at H9_ 1 rfl⟩ ?_
  refine A_take 2 (ls' := #[false, true, true, false, false, false, false, false]) (v := (Value.slice q.tA q.tN q.tC)) rfl (by kernel_rfl) (by kernel_rfl) (by kernel_rfl) (by kernel_rfl) (fun _ _ _ h => h) (fun w hS => x_load1 rfl Try.underlying38 rfl (hS.1 19 (Value.slice q.tA q.tN q.tC) rfl)) ⟨Holds.rd H9_ 0 rfl, Holds.ro_at H9_ 1 rfl⟩ ?_
  refine A_take 4 (ls' := #[false, true, true, false, true, false, false, false]) (v := (Value.pointer (some ⟨b2_, 20, none⟩))) rfl (by kernel_rfl) (by kernel_rfl) (by kernel_rfl) (by kernel_rfl) (fun _ _ _ h => h) (fun w hS => by kernel_rfl) ⟨Holds.rd H9_ 0 rfl, Holds.ro_at H9_ 1 rfl⟩ ?_
  refine A_take 5 (ls' := #[false, true, true, false, true, true, false, false]) (v := (Value.slice q.eA q.eN q.eC)) rfl (by kernel_rfl) (by kernel_rfl) (by kernel_rfl) (by kernel_rfl) (fun _ _ _ h => h) (fun w hS => x_load1 rfl Try.underlying38 rfl (hS.1 20 (Value.slice q.eA q.eN q.eC) rfl)) ⟨Holds.rd H9_ 0 rfl, Holds.ro_at H9_ 1 rfl⟩ ?_
  refine A_ready (i := 0) (rs := []) (by kernel_rfl) ?_
  refine AllR.cons ?_ AllR.nil
  refine A_op (ls' := #[true, true, true, false, true, true, false, false]) rfl (by kernel_rfl) (T_new (obj := .cells #[] 40) (f := fun b => .slice (some ⟨b, 0, none⟩) 0 0) (A := fun b => cl b 40 []) (by kernel_rfl) (fun l h => h.alloc _ _) H9_ ?_)
  intro b10_ w11_ S13_ H12_
  replace H12_ : Holds w11_ (cl b10_ 40 [] :: cl b2_ 40 [(Value.int .i64 q.kind), (Value.string q.key), (Value.string q.en), (Value.string q.val), (Value.int .i64 q.lease), (Value.int .i64 q.rev), (Value.int .i64 q.limit), (Value.int .i64 q.order), (Value.int .i64 q.target), (Value.int .i64 q.minMod), (Value.int .i64 q.maxMod), (Value.int .i64 q.minCreate), (Value.int .i64 q.maxCreate), (Value.bool q.keysOnly), (Value.bool q.countOnly), (Value.bool q.prev), (Value.bool q.ignValue), (Value.bool q.ignLease), (Value.slice q.cA q.cN q.cC), (Value.slice q.tA q.tN q.tC), (Value.slice q.eA q.eN q.eC)] :: ro R :: F) := H12_
  have S14_ := Same.trans (Same.trans S6_ (Same.drew _)) S13_
  refine ⟨⟨Holds.rd H12_ 1 rfl, Holds.ro_at H12_ 2 rfl⟩, ?_⟩
  refine A_ready (i := 3) (rs := []) (by kernel_rfl) ?_
  refine AllR.cons ?_ AllR.nil
  have H15_ : Holds w11_ (cl b10_ 40 ([] ++ [] ++ []) :: cl b2_ 40 [(Value.int .i64 q.kind), (Value.string q.key), (Value.string q.en), (Value.string q.val), (Value.int .i64 q.lease), (Value.int .i64 q.rev), (Value.int .i64 q.limit), (Value.int .i64 q.order), (Value.int .i64 q.target), (Value.int .i64 q.minMod), (Value.int .i64 q.maxMod), (Value.int .i64 q.minCreate), (Value.int .i64 q.maxCreate), (Value.bool q.keysOnly), (Value.bool q.countOnly), (Value.bool q.prev), (Value.bool q.ignValue), (Value.bool q.ignLease), (Value.slice q.cA q.cN q.cC), (Value.slice q.tA q.tN q.tC), (Value.slice q.eA q.eN q.eC)] :: ro R :: F) := cast1 (P := fun (c__ : List Value) => Holds w11_ (cl b10_ 40 c__ :: cl b2_ 40 [(Value.int .i64 q.kind), (Value.string q.key), (Value.string q.en), (Value.string q.val), (Value.int .i64 q.lease), (Value.int .i64 q.rev), (Value.int .i64 q.limit), (Value.int .i64 q.order), (Value.int .i64 q.target), (Value.int .i64 q.minMod), (Value.int .i64 q.maxMod), (Value.int .i64 q.minCreate), (Value.int .i64 q.maxCreate), (Value.bool q.keysOnly), (Value.bool q.countOnly), (Value.bool q.prev), (Value.bool q.ignValue), (Value.bool q.ignLease), (Value.slice q.cA q.cN q.cC), (Value.slice q.tA q.tN q.tC), (Value.slice q.eA q.eN q.eC)] :: ro R :: F)) (by kernel_rfl : [] = [] ++ [] ++ []) H12_
  have H16_ : Holds w11_ (sl 40 21 (Value.slice (some ⟨b10_, 0, none⟩) 0 0) 0 [] :: cl b2_ 40 [(Value.int .i64 q.kind), (Value.string q.key), (Value.string q.en), (Value.string q.val), (Value.int .i64 q.lease), (Value.int .i64 q.rev), (Value.int .i64 q.limit), (Value.int .i64 q.order), (Value.int .i64 q.target), (Value.int .i64 q.minMod), (Value.int .i64 q.maxMod), (Value.int .i64 q.minCreate), (Value.int .i64 q.maxCreate), (Value.bool q.keysOnly), (Value.bool q.countOnly), (Value.bool q.prev), (Value.bool q.ignValue), (Value.bool q.ignLease), (Value.slice q.cA q.cN q.cC), (Value.slice q.tA q.tN q.tC), (Value.slice q.eA q.eN q.eC)] :: ro R :: F) := Holds.to_sl H15_ 0 [] [] (xs := []) (m := 0) (cap := 0) (sz := 21) rfl (by kernel_rfl) (by kernel_rfl) (by omega)
  refine A_op (ls' := #[true, true, true, true, true, true, false, false]) rfl (by kernel_rfl) (T_append rfl rfl Try.underlying38 z40 rfl (by decide) H16_ 0 rfl (RS.src hL.t (Holds.ro_at H16_ 2 rfl) Try.underlying38 (one_req ht)) (by omega) ?_)
  intro v17_ w18_ S20_ H19_
  replace H19_ : Holds w18_ (sl 40 21 v17_ (0 + tt.length) ([] ++ (tt.flatMap ReqS.cells)) :: cl b2_ 40 [(Value.int .i64 q.kind), (Value.string q.key), (Value.string q.en), (Value.string q.val), (Value.int .i64 q.lease), (Value.int .i64 q.rev), (Value.int .i64 q.limit), (Value.int .i64 q.order), (Value.int .i64 q.target), (Value.int .i64 q.minMod), (Value.int .i64 q.maxMod), (Value.int .i64 q.minCreate), (Value.int .i64 q.maxCreate), (Value.bool q.keysOnly), (Value.bool q.countOnly), (Value.bool q.prev), (Value.bool q.ignValue), (Value.bool q.ignLease), (Value.slice q.cA q.cN q.cC), (Value.slice q.tA q.tN q.tC), (Value.slice q.eA q.eN q.eC)] :: ro R :: F) := H19_
  have S21_ := Same.trans S14_ S20_
  refine ⟨⟨Holds.rd H19_ 1 rfl, Holds.ro_at H19_ 2 rfl⟩, ?_⟩
  refine A_ready (i := 6) (rs := []) (by kernel_rfl) ?_
  refine AllR.cons ?_ AllR.nil
  refine A_op (ls' := #[true, true, true, true, true, true, true, false]) rfl (by kernel_rfl) (T_append rfl rfl Try.underlying38 z40 rfl (by decide) H19_ 0 rfl (RS.src hL.e (Holds.ro_at H19_ 2 rfl) Try.underlying38 (one_req he)) (by omega) ?_)
  intro v22_ w23_ S25_ H24_
  replace H24_ : Holds w23_ (sl 40 21 v22_ (0 + tt.length + ee.length) (([] ++ (tt.flatMap ReqS.cells)) ++ (ee.flatMap ReqS.cells)) :: cl b2_ 40 [(Value.int .i64 q.kind), (Value.string q.key), (Value.string q.en), (Value.string q.val), (Value.int .i64 q.lease), (Value.int .i64 q.rev), (Value.int .i64 q.limit), (Value.int .i64 q.order), (Value.int .i64 q.target), (Value.int .i64 q.minMod), (Value.int .i64 q.maxMod), (Value.int .i64 q.minCreate), (Value.int .i64 q.maxCreate), (Value.bool q.keysOnly), (Value.bool q.countOnly), (Value.bool q.prev), (Value.bool q.ignValue), (Value.bool q.ignLease), (Value.slice q.cA q.cN q.cC), (Value.slice q.tA q.tN q.tC), (Value.slice q.eA q.eN q.eC)] :: ro R :: F) := H24_
  have S26_ := Same.trans S21_ S25_
  refine ⟨⟨Holds.rd H24_ 1 rfl, Holds.ro_at H24_ 2 rfl⟩, ?_⟩
  refine A_take 7 (ls' := #[true, true, true, true, true, true, true, true]) (v := v22_) rfl (by kernel_rfl) (by kernel_rfl) (by kernel_rfl) (by kernel_rfl) (fun _ _ _ h => h) (fun w hS => x_assign rfl) ⟨Holds.rd H24_ 1 rfl, Holds.ro_at H24_ 2 rfl⟩ ?_
  refine A_done (by kernel_rfl) ?_
  refine (X_then (hK7_ _ _ ?_))
  clear hK7_
  refine C_seq (fun K27_ hK27_ => ?_)
  refine C_seq (fun K28_ hK28_ => ?_)
  refine C_reg ?_
  refine S_list (T_val (v := (Value.int .i64 0)) (x_assign rfl) ?_)
  refine wpList_nil ?_
  refine (X_then (hK28_ _ _ ?_))
  clear hK28_
  refine C_block ?_
  have H29_ : Holds w23_ (sl 40 21 v22_ ((tt ++ ee).length) ((tt ++ ee).flatMap ReqS.cells) :: cl b2_ 40 [(Value.int .i64 q.kind), (Value.string q.key), (Value.string q.en), (Value.string q.val), (Value.int .i64 q.lease), (Value.int .i64 q.rev), (Value.int .i64 q.limit), (Value.int .i64 q.order), (Value.int .i64 q.target), (Value.int .i64 q.minMod), (Value.int .i64 q.maxMod), (Value.int .i64 q.minCreate), (Value.int .i64 q.maxCreate), (Value.bool q.keysOnly), (Value.bool q.countOnly), (Value.bool q.prev), (Value.bool q.ignValue), (Value.bool q.ignLease), (Value.slice q.cA q.cN q.cC), (Value.slice q.tA q.tN q.tC), (Value.slice q.eA q.eN q.eC)] :: ro R :: F) := cast2 (P := fun (c__ : List Value) (k__ : Nat) => Holds w23_ (sl 40 21 v22_ k__ c__ :: cl b2_ 40 [(Value.int .i64 q.kind), (Value.string q.key), (Value.string q.en), (Value.string q.val), (Value.int .i64 q.lease), (Value.int .i64 q.rev), (Value.int .i64 q.limit), (Value.int .i64 q.order), (Value.int .i64 q.target), (Value.int .i64 q.minMod), (Value.int .i64 q.maxMod), (Value.int .i64 q.minCreate), (Value.int .i64 q.maxCreate), (Value.bool q.keysOnly), (Value.bool q.countOnly), (Value.bool q.prev), (Value.bool q.ignValue), (Value.bool q.ignLease), (Value.slice q.cA q.cN q.cC), (Value.slice q.tA q.tN q.tC), (Value.slice q.eA q.eN q.eC)] :: ro R :: F)) (by simp [List.flatMap_append] : ([] ++ (tt.flatMap ReqS.cells)) ++ (ee.flatMap ReqS.cells) = (tt ++ ee).flatMap ReqS.cells) (by simp : 0 + tt.length + ee.length = (tt ++ ee).length) H24_
  obtain ⟨R9, a9, H9⟩ := Holds.freeze H29_ 0 rfl
  replace H9 : Holds w23_ (ro R9 :: cl b2_ 40 [(Value.int .i64 q.kind), (Value.string q.key), (Value.string q.en), (Value.string q.val), (Value.int .i64 q.lease), (Value.int .i64 q.rev), (Value.int .i64 q.limit), (Value.int .i64 q.order), (Value.int .i64 q.target), (Value.int .i64 q.minMod), (Value.int .i64 q.maxMod), (Value.int .i64 q.minCreate), (Value.int .i64 q.maxCreate), (Value.bool q.keysOnly), (Value.bool q.countOnly), (Value.bool q.prev), (Value.bool q.ignValue), (Value.bool q.ignLease), (Value.slice q.cA q.cN q.cC), (Value.slice q.tA q.tN q.tC), (Value.slice q.eA q.eN q.eC)] :: ro R :: F) := H9
  have hs9 := sl_RS a9 (Sub.rfl' _)
  have hl9 : (tt ++ ee).length = tt.length + ee.length := by simp
  refine C_loop (γ := Nat) (fun k a w1 => ∃ h : Env, a = mkA 24 (upd (upd h 4 (Value.int .i64 (k : Int))) 3 v22_) [] ∧ Holds w1 (ro R9 :: cl b2_ 40 [(Value.int .i64 q.kind), (Value.string q.key), (Value.string q.en), (Value.string q.val), (Value.int .i64 q.lease), (Value.int .i64 q.rev), (Value.int .i64 q.limit), (Value.int .i64 q.order), (Value.int .i64 q.target), (Value.int .i64 q.minMod), (Value.int .i64 q.maxMod), (Value.int .i64 q.minCreate), (Value.int .i64 q.maxCreate), (Value.bool q.keysOnly), (Value.bool q.countOnly), (Value.bool q.prev), (Value.bool q.ignValue), (Value.bool q.ignLease), (Value.slice q.cA q.cN q.cC), (Value.slice q.tA q.tN q.tC), (Value.slice q.eA q.eN q.eC)] :: ro R :: F) ∧ Same w w1 ∧ (k ≤ (tt ++ ee).length) ∧ (∀ (i : Nat) (y : ReqS), i < k → (tt ++ ee)[i]? = some y → y.kind = 1)) (fun k => (tt ++ ee).length - k) (0) ⟨_, congrArg (fun e => mkA 24 e []) (ch (ch rfl (by first | rfl | exact congrArg (Value.int _) (by omega))) (by first | rfl | exact congrArg (Value.int _) (by omega))), H9, S26_, by omega, fun i y hi => by omega⟩ ?_
  rintro k _ w30_ ⟨h, rfl, H31_, S32_, hk, hal⟩
  refine C_seq (fun K33_ hK33_ => ?_)
  refine C_seq (fun K34_ hK34_ => ?_)
  refine C_reg ?_
  refine S_list (T_val (v := (Value.int .i64 (k : Int))) (x_move rfl) ?_)
  refine S_list (T_val (v := v22_) (x_move rfl) ?_)
  refine S_list (T_val (v := (Value.int .i64 ((tt ++ ee).length : Int))) (x_lenRS rfl hs9 Try.underlying38) ?_)
  refine S_list (T_val (v := (Value.bool (decide ((k : Int) < ((tt ++ ee).length : Int))))) (x_bin rfl rfl rfl) ?_)
  refine wpList_nil ?_
  refine (X_then (hK34_ _ _ ?_))
  clear hK34_
  refine C_cond (b := decide ((k : Int) < ((tt ++ ee).length : Int))) rfl (fun c35_t => ?_) (fun c35_f => ?_)
  · have c35_tp : (k : Int) < ((tt ++ ee).length : Int) := of_decide_eq_true c35_t
    refine C_skip (X_then (hK33_ _ _ ?_))
    clear hK33_
    refine C_seq (fun K36_ hK36_ => ?_)
    refine C_block ?_
    refine C_seq (fun K37_ hK37_ => ?_)
    refine C_reg ?_
    refine S_list (T_val (v := v22_) (x_move rfl) ?_)
    refine S_list (T_val (v := (Value.int .i64 (k : Int))) (x_move rfl) ?_)
    obtain ⟨x38_, hx39_, hm40_⟩ := elem_at (tt ++ ee) k (by omega)
    refine S_list (T_val (v := (Value.pointer (some ⟨(sb v22_), so v22_ + (k * 21 + 0), none⟩))) (x_idxRS (v := v22_) rfl hs9 rfl Try.underlying38 z40 (by omega) (by omega) (by omega : _ = k) rfl) ?_)
    refine S_list (T_val (v := (Value.pointer (some ⟨(sb v22_), so v22_ + (k * 21 + 0), none⟩))) (by kernel_rfl) ?_)
    refine S_list (T_val (v := (Value.int .i64 x38_.kind)) (x_load1 rfl Try.underlying3 rfl (RC.cell (RS.rc hs9) (Holds.ro_at H31_ 0 rfl) (j := k * 21 + 0) (u := (Value.int .i64 x38_.kind)) (fm_cell ReqS.len hx39_ (i := 0) rfl))) ?_)
    refine S_list (T_val (v := (Value.bool (decide (x38_.kind ≠ 1)))) (x_bin rfl rfl rfl) ?_)
    refine wpList_nil ?_
    refine (X_then (hK37_ _ _ ?_))
    clear hK37_
    refine C_cond (b := decide (x38_.kind ≠ 1)) rfl (fun c41_t => ?_) (fun c41_f => ?_)
    · have c41_tp : x38_.kind ≠ 1 := of_decide_eq_true c41_t
      refine C_seq (fun K42_ hK42_ => ?_)
      refine C_reg ?_
      refine S_list (T_val (v := (Value.bool false)) (x_assign rfl) ?_)
      refine wpList_nil ?_
      refine (X_then (hK42_ _ _ ?_))
      clear hK42_
      refine C_ret (X_blkR (X_thenR (X_thenR (X_blkR (X_thenR ?_)))))
      refine R_any (v := (Value.bool false)) (run_results1 rfl rfl) ?_
      have H43_ : Holds w30_ (ro R :: F) := (Holds.erase (Holds.erase (Holds.bring H31_ 2 rfl) 1) 1)
      exact ⟨_, [], rfl, ⟨by rw [show (rdo tt && rdo ee) = false from (List.all_append ..).symm.trans (not_all hx39_ (by first | (simp; omega) | simp_all))], rfl⟩, S32_, H43_⟩
    · have c41_fp : ¬ (x38_.kind ≠ 1) := of_decide_eq_false c41_f
      refine C_skip (X_blkN (X_then (hK36_ _ _ ?_)))
      clear hK36_
      refine C_reg ?_
      refine S_list (T_val (v := (Value.int .i64 (k : Int))) (x_move rfl) ?_)
      refine S_list (T_val (v := (Value.int .i64 ((k : Int) + 1))) (x_bin rfl rfl (ib_add (IntWalk.i64_in _ (by omega)))) ?_)
      refine S_list (T_val (v := (Value.int .i64 ((k : Int) + 1))) (x_assign rfl) ?_)
      refine wpList_nil ?_
      refine (X_then ?_)
      exact ⟨k + 1, ⟨_, congrArg (fun e => mkA 24 e []) (ch (ch rfl (by first | rfl | exact congrArg (Value.int _) (by omega))) (by first | rfl | exact congrArg (Value.int _) (by omega))), H31_, S32_, by omega, fun i y hi hy => by
          rcases Nat.lt_or_ge i k with hlt | hge
          · exact hal i y hlt hy
          · obtain rfl : i = k := by omega
            rw [hx39_] at hy; cases hy; first | (simp_all; done) | (simp_all; omega)⟩, by first | omega | (simp; omega)⟩
  · have c35_fp : ¬ ((k : Int) < ((tt ++ ee).length : Int)) := of_decide_eq_false c35_f
    refine C_exit (X_thenX (X_thenX (X_blkHit ?_)))
    refine (X_then (hK27_ _ _ ?_))
    clear hK27_
    refine C_seq (fun K44_ hK44_ => ?_)
    refine C_reg ?_
    refine S_list (T_val (v := (Value.bool true)) (x_assign rfl) ?_)
    refine wpList_nil ?_
    refine (X_then (hK44_ _ _ ?_))
    clear hK44_
    refine C_ret ?_
    refine R_any (v := (Value.bool true)) (run_results1 rfl rfl) ?_
    have H45_ : Holds w30_ (ro R :: F) := (Holds.erase (Holds.erase (Holds.bring H31_ 2 rfl) 1) 1)
    exact ⟨_, [], rfl, ⟨by rw [show (rdo tt && rdo ee) = true from (List.all_append ..).symm.trans (all_of fun i y hi hy => by simpa using hal i y (by omega) hy)], rfl⟩, S32_, H45_⟩

set_option maxHeartbeats 400000 in
theorem kSpecSer (R : HP) (q : ReqS) (cc : List CmpS) (tt ee : List ReqS) (hL : Lists R q cc tt ee) (hb : cc.length ≤ 8 ∧ tt.length ≤ 16 ∧ ee.length ≤ 16) (ht : ∀ x ∈ tt, ReqG R x) (he : ∀ x ∈ ee, ReqG R x) :
    Tri Try.prog 22 #[(Value.agg #[(Value.int .i64 q.kind), (Value.string q.key), (Value.string q.en), (Value.string q.val), (Value.int .i64 q.lease), (Value.int .i64 q.rev), (Value.int .i64 q.limit), (Value.int .i64 q.order), (Value.int .i64 q.target), (Value.int .i64 q.minMod), (Value.int .i64 q.maxMod), (Value.int .i64 q.minCreate), (Value.int .i64 q.maxCreate), (Value.bool q.keysOnly), (Value.bool q.countOnly), (Value.bool q.prev), (Value.bool q.ignValue), (Value.bool q.ignLease), (Value.slice q.cA q.cN q.cC), (Value.slice q.tA q.tN q.tC), (Value.slice q.eA q.eN q.eC)])] R [] (fun v post => v = .bool (srl tt && srl ee) ∧ post = []) := by
  obtain ⟨hb1, hb2, hb3⟩ := id hb
  refine Tri.into (n := 32) (al := [(Value.agg #[(Value.int .i64 q.kind), (Value.string q.key), (Value.string q.en), (Value.string q.val), (Value.int .i64 q.lease), (Value.int .i64 q.rev), (Value.int .i64 q.limit), (Value.int .i64 q.order), (Value.int .i64 q.target), (Value.int .i64 q.minMod), (Value.int .i64 q.maxMod), (Value.int .i64 q.minCreate), (Value.int .i64 q.maxCreate), (Value.bool q.keysOnly), (Value.bool q.countOnly), (Value.bool q.prev), (Value.bool q.ignValue), (Value.bool q.ignLease), (Value.slice q.cA q.cN q.cC), (Value.slice q.tA q.tN q.tC), (Value.slice q.eA q.eN q.eC)])]) Try.func22 rfl Try.ntmps22 rfl rfl fun w F H => ?_
  replace H : Holds w (ro R :: F) := H
  refine C_seq (fun K1_ hK1_ => ?_)
  refine C_reg ?_
  refine S_list (T_box (v := (Value.agg #[(Value.int .i64 q.kind), (Value.string q.key), (Value.string q.en), (Value.string q.val), (Value.int .i64 q.lease), (Value.int .i64 q.rev), (Value.int .i64 q.limit), (Value.int .i64 q.order), (Value.int .i64 q.target), (Value.int .i64 q.minMod), (Value.int .i64 q.maxMod), (Value.int .i64 q.minCreate), (Value.int .i64 q.maxCreate), (Value.bool q.keysOnly), (Value.bool q.countOnly), (Value.bool q.prev), (Value.bool q.ignValue), (Value.bool q.ignLease), (Value.slice q.cA q.cN q.cC), (Value.slice q.tA q.tN q.tC), (Value.slice q.eA q.eN q.eC)])) rfl H ?_)
  intro b2_ w3_ S5_ H4_
  replace H4_ : Holds w3_ (cl b2_ 40 [(Value.int .i64 q.kind), (Value.string q.key), (Value.string q.en), (Value.string q.val), (Value.int .i64 q.lease), (Value.int .i64 q.rev), (Value.int .i64 q.limit), (Value.int .i64 q.order), (Value.int .i64 q.target), (Value.int .i64 q.minMod), (Value.int .i64 q.maxMod), (Value.int .i64 q.minCreate), (Value.int .i64 q.maxCreate), (Value.bool q.keysOnly), (Value.bool q.countOnly), (Value.bool q.prev), (Value.bool q.ignValue), (Value.bool q.ignLease), (Value.slice q.cA q.cN q.cC), (Value.slice q.tA q.tN q.tC), (Value.slice q.eA q.eN q.eC)] :: ro R :: F) := H4_
  have S6_ := Same.trans (Same.refl w) S5_
  refine S_list (T_val (v := (Value.bool false)) (x_assign rfl) ?_)
  refine wpList_nil ?_
  refine (X_then (hK1_ _ _ ?_))
  clear hK1_
  refine C_seq (fun K7_ hK7_ => ?_)
  refine A_start (S := fun w => Rd b2_ [(Value.int .i64 q.kind), (Value.string q.key), (Value.string q.en), (Value.string q.val), (Value.int .i64 q.lease), (Value.int .i64 q.rev), (Value.int .i64 q.limit), (Value.int .i64 q.order), (Value.int .i64 q.target), (Value.int .i64 q.minMod), (Value.int .i64 q.maxMod), (Value.int .i64 q.minCreate), (Value.int .i64 q.maxCreate), (Value.bool q.keysOnly), (Value.bool q.countOnly), (Value.bool q.prev), (Value.bool q.ignValue), (Value.bool q.ignLease), (Value.slice q.cA q.cN q.cC), (Value.slice q.tA q.tN q.tC), (Value.slice q.eA q.eN q.eC)] w ∧ Sub R (hp w)) (N := 8) foll rfl rfl ?_
  have H9_ : Holds w3_.drew (cl b2_ 40 [(Value.int .i64 q.kind), (Value.string q.key), (Value.string q.en), (Value.string q.val), (Value.int .i64 q.lease), (Value.int .i64 q.rev), (Value.int .i64 q.limit), (Value.int .i64 q.order), (Value.int .i64 q.target), (Value.int .i64 q.minMod), (Value.int .i64 q.maxMod), (Value.int .i64 q.minCreate), (Value.int .i64 q.maxCreate), (Value.bool q.keysOnly), (Value.bool q.countOnly), (Value.bool q.prev), (Value.bool q.ignValue), (Value.bool q.ignLease), (Value.slice q.cA q.cN q.cC), (Value.slice q.tA q.tN q.tC), (Value.slice q.eA q.eN q.eC)] :: ro R :: F) := H4_
  refine A_take 1 (ls' := #[false, true, false, false, false, false, false, false]) (v := (Value.pointer (some ⟨b2_, 19, none⟩))) rfl (by kernel_rfl) (by kernel_rfl) (by kernel_rfl) (by kernel_rfl) (fun _ _ _ h => h) (fun w hS => by kernel_rfl) ⟨Holds.rd H9_ 0 rfl, Holds.ro_at H9_ 1 rfl⟩ ?_
  refine A_take 2 (ls' := #[false, true, true, false, false, false, false, false]) (v := (Value.slice q.tA q.tN q.tC)) rfl (by kernel_rfl) (by kernel_rfl) (by kernel_rfl) (by kernel_rfl) (fun _ _ _ h => h) (fun w hS => x_load1 rfl Try.underlying38 rfl (hS.1 19 (Value.slice q.tA q.tN q.tC) rfl)) ⟨Holds.rd H9_ 0 rfl, Holds.ro_at H9_ 1 rfl⟩ ?_
  refine A_take 4 (ls' := #[false, true, true, false, true, false, false, false]) (v := (Value.pointer (some ⟨b2_, 20, none⟩))) rfl (by kernel_rfl) (by kernel_rfl) (by kernel_rfl) (by kernel_rfl) (fun _ _ _ h => h) (fun w hS => by kernel_rfl) ⟨Holds.rd H9_ 0 rfl, Holds.ro_at H9_ 1 rfl⟩ ?_
  refine A_take 5 (ls' := #[false, true, true, false, true, true, false, false]) (v := (Value.slice q.eA q.eN q.eC)) rfl (by kernel_rfl) (by kernel_rfl) (by kernel_rfl) (by kernel_rfl) (fun _ _ _ h => h) (fun w hS => x_load1 rfl Try.underlying38 rfl (hS.1 20 (Value.slice q.eA q.eN q.eC) rfl)) ⟨Holds.rd H9_ 0 rfl, Holds.ro_at H9_ 1 rfl⟩ ?_
  refine A_ready (i := 0) (rs := []) (by kernel_rfl) ?_
  refine AllR.cons ?_ AllR.nil
  refine A_op (ls' := #[true, true, true, false, true, true, false, false]) rfl (by kernel_rfl) (T_new (obj := .cells #[] 40) (f := fun b => .slice (some ⟨b, 0, none⟩) 0 0) (A := fun b => cl b 40 []) (by kernel_rfl) (fun l h => h.alloc _ _) H9_ ?_)
  intro b10_ w11_ S13_ H12_
  replace H12_ : Holds w11_ (cl b10_ 40 [] :: cl b2_ 40 [(Value.int .i64 q.kind), (Value.string q.key), (Value.string q.en), (Value.string q.val), (Value.int .i64 q.lease), (Value.int .i64 q.rev), (Value.int .i64 q.limit), (Value.int .i64 q.order), (Value.int .i64 q.target), (Value.int .i64 q.minMod), (Value.int .i64 q.maxMod), (Value.int .i64 q.minCreate), (Value.int .i64 q.maxCreate), (Value.bool q.keysOnly), (Value.bool q.countOnly), (Value.bool q.prev), (Value.bool q.ignValue), (Value.bool q.ignLease), (Value.slice q.cA q.cN q.cC), (Value.slice q.tA q.tN q.tC), (Value.slice q.eA q.eN q.eC)] :: ro R :: F) := H12_
  have S14_ := Same.trans (Same.trans S6_ (Same.drew _)) S13_
  refine ⟨⟨Holds.rd H12_ 1 rfl, Holds.ro_at H12_ 2 rfl⟩, ?_⟩
  refine A_ready (i := 3) (rs := []) (by kernel_rfl) ?_
  refine AllR.cons ?_ AllR.nil
  have H15_ : Holds w11_ (cl b10_ 40 ([] ++ [] ++ []) :: cl b2_ 40 [(Value.int .i64 q.kind), (Value.string q.key), (Value.string q.en), (Value.string q.val), (Value.int .i64 q.lease), (Value.int .i64 q.rev), (Value.int .i64 q.limit), (Value.int .i64 q.order), (Value.int .i64 q.target), (Value.int .i64 q.minMod), (Value.int .i64 q.maxMod), (Value.int .i64 q.minCreate), (Value.int .i64 q.maxCreate), (Value.bool q.keysOnly), (Value.bool q.countOnly), (Value.bool q.prev), (Value.bool q.ignValue), (Value.bool q.ignLease), (Value.slice q.cA q.cN q.cC), (Value.slice q.tA q.tN q.tC), (Value.slice q.eA q.eN q.eC)] :: ro R :: F) := cast1 (P := fun (c__ : List Value) => Holds w11_ (cl b10_ 40 c__ :: cl b2_ 40 [(Value.int .i64 q.kind), (Value.string q.key), (Value.string q.en), (Value.string q.val), (Value.int .i64 q.lease), (Value.int .i64 q.rev), (Value.int .i64 q.limit), (Value.int .i64 q.order), (Value.int .i64 q.target), (Value.int .i64 q.minMod), (Value.int .i64 q.maxMod), (Value.int .i64 q.minCreate), (Value.int .i64 q.maxCreate), (Value.bool q.keysOnly), (Value.bool q.countOnly), (Value.bool q.prev), (Value.bool q.ignValue), (Value.bool q.ignLease), (Value.slice q.cA q.cN q.cC), (Value.slice q.tA q.tN q.tC), (Value.slice q.eA q.eN q.eC)] :: ro R :: F)) (by kernel_rfl : [] = [] ++ [] ++ []) H12_
  have H16_ : Holds w11_ (sl 40 21 (Value.slice (some ⟨b10_, 0, none⟩) 0 0) 0 [] :: cl b2_ 40 [(Value.int .i64 q.kind), (Value.string q.key), (Value.string q.en), (Value.string q.val), (Value.int .i64 q.lease), (Value.int .i64 q.rev), (Value.int .i64 q.limit), (Value.int .i64 q.order), (Value.int .i64 q.target), (Value.int .i64 q.minMod), (Value.int .i64 q.maxMod), (Value.int .i64 q.minCreate), (Value.int .i64 q.maxCreate), (Value.bool q.keysOnly), (Value.bool q.countOnly), (Value.bool q.prev), (Value.bool q.ignValue), (Value.bool q.ignLease), (Value.slice q.cA q.cN q.cC), (Value.slice q.tA q.tN q.tC), (Value.slice q.eA q.eN q.eC)] :: ro R :: F) := Holds.to_sl H15_ 0 [] [] (xs := []) (m := 0) (cap := 0) (sz := 21) rfl (by kernel_rfl) (by kernel_rfl) (by omega)
  refine A_op (ls' := #[true, true, true, true, true, true, false, false]) rfl (by kernel_rfl) (T_append rfl rfl Try.underlying38 z40 rfl (by decide) H16_ 0 rfl (RS.src hL.t (Holds.ro_at H16_ 2 rfl) Try.underlying38 (one_req ht)) (by omega) ?_)
  intro v17_ w18_ S20_ H19_
  replace H19_ : Holds w18_ (sl 40 21 v17_ (0 + tt.length) ([] ++ (tt.flatMap ReqS.cells)) :: cl b2_ 40 [(Value.int .i64 q.kind), (Value.string q.key), (Value.string q.en), (Value.string q.val), (Value.int .i64 q.lease), (Value.int .i64 q.rev), (Value.int .i64 q.limit), (Value.int .i64 q.order), (Value.int .i64 q.target), (Value.int .i64 q.minMod), (Value.int .i64 q.maxMod), (Value.int .i64 q.minCreate), (Value.int .i64 q.maxCreate), (Value.bool q.keysOnly), (Value.bool q.countOnly), (Value.bool q.prev), (Value.bool q.ignValue), (Value.bool q.ignLease), (Value.slice q.cA q.cN q.cC), (Value.slice q.tA q.tN q.tC), (Value.slice q.eA q.eN q.eC)] :: ro R :: F) := H19_
  have S21_ := Same.trans S14_ S20_
  refine ⟨⟨Holds.rd H19_ 1 rfl, Holds.ro_at H19_ 2 rfl⟩, ?_⟩
  refine A_ready (i := 6) (rs := []) (by kernel_rfl) ?_
  refine AllR.cons ?_ AllR.nil
  refine A_op (ls' := #[true, true, true, true, true, true, true, false]) rfl (by kernel_rfl) (T_append rfl rfl Try.underlying38 z40 rfl (by decide) H19_ 0 rfl (RS.src hL.e (Holds.ro_at H19_ 2 rfl) Try.underlying38 (one_req he)) (by omega) ?_)
  intro v22_ w23_ S25_ H24_
  replace H24_ : Holds w23_ (sl 40 21 v22_ (0 + tt.length + ee.length) (([] ++ (tt.flatMap ReqS.cells)) ++ (ee.flatMap ReqS.cells)) :: cl b2_ 40 [(Value.int .i64 q.kind), (Value.string q.key), (Value.string q.en), (Value.string q.val), (Value.int .i64 q.lease), (Value.int .i64 q.rev), (Value.int .i64 q.limit), (Value.int .i64 q.order), (Value.int .i64 q.target), (Value.int .i64 q.minMod), (Value.int .i64 q.maxMod), (Value.int .i64 q.minCreate), (Value.int .i64 q.maxCreate), (Value.bool q.keysOnly), (Value.bool q.countOnly), (Value.bool q.prev), (Value.bool q.ignValue), (Value.bool q.ignLease), (Value.slice q.cA q.cN q.cC), (Value.slice q.tA q.tN q.tC), (Value.slice q.eA q.eN q.eC)] :: ro R :: F) := H24_
  have S26_ := Same.trans S21_ S25_
  refine ⟨⟨Holds.rd H24_ 1 rfl, Holds.ro_at H24_ 2 rfl⟩, ?_⟩
  refine A_take 7 (ls' := #[true, true, true, true, true, true, true, true]) (v := v22_) rfl (by kernel_rfl) (by kernel_rfl) (by kernel_rfl) (by kernel_rfl) (fun _ _ _ h => h) (fun w hS => x_assign rfl) ⟨Holds.rd H24_ 1 rfl, Holds.ro_at H24_ 2 rfl⟩ ?_
  refine A_done (by kernel_rfl) ?_
  refine (X_then (hK7_ _ _ ?_))
  clear hK7_
  refine C_seq (fun K27_ hK27_ => ?_)
  refine C_seq (fun K28_ hK28_ => ?_)
  refine C_reg ?_
  refine S_list (T_val (v := (Value.int .i64 0)) (x_assign rfl) ?_)
  refine wpList_nil ?_
  refine (X_then (hK28_ _ _ ?_))
  clear hK28_
  refine C_block ?_
  have H29_ : Holds w23_ (sl 40 21 v22_ ((tt ++ ee).length) ((tt ++ ee).flatMap ReqS.cells) :: cl b2_ 40 [(Value.int .i64 q.kind), (Value.string q.key), (Value.string q.en), (Value.string q.val), (Value.int .i64 q.lease), (Value.int .i64 q.rev), (Value.int .i64 q.limit), (Value.int .i64 q.order), (Value.int .i64 q.target), (Value.int .i64 q.minMod), (Value.int .i64 q.maxMod), (Value.int .i64 q.minCreate), (Value.int .i64 q.maxCreate), (Value.bool q.keysOnly), (Value.bool q.countOnly), (Value.bool q.prev), (Value.bool q.ignValue), (Value.bool q.ignLease), (Value.slice q.cA q.cN q.cC), (Value.slice q.tA q.tN q.tC), (Value.slice q.eA q.eN q.eC)] :: ro R :: F) := cast2 (P := fun (c__ : List Value) (k__ : Nat) => Holds w23_ (sl 40 21 v22_ k__ c__ :: cl b2_ 40 [(Value.int .i64 q.kind), (Value.string q.key), (Value.string q.en), (Value.string q.val), (Value.int .i64 q.lease), (Value.int .i64 q.rev), (Value.int .i64 q.limit), (Value.int .i64 q.order), (Value.int .i64 q.target), (Value.int .i64 q.minMod), (Value.int .i64 q.maxMod), (Value.int .i64 q.minCreate), (Value.int .i64 q.maxCreate), (Value.bool q.keysOnly), (Value.bool q.countOnly), (Value.bool q.prev), (Value.bool q.ignValue), (Value.bool q.ignLease), (Value.slice q.cA q.cN q.cC), (Value.slice q.tA q.tN q.tC), (Value.slice q.eA q.eN q.eC)] :: ro R :: F)) (by simp [List.flatMap_append] : ([] ++ (tt.flatMap ReqS.cells)) ++ (ee.flatMap ReqS.cells) = (tt ++ ee).flatMap ReqS.cells) (by simp : 0 + tt.length + ee.length = (tt ++ ee).length) H24_
  obtain ⟨R9, a9, H9⟩ := Holds.freeze H29_ 0 rfl
  replace H9 : Holds w23_ (ro R9 :: cl b2_ 40 [(Value.int .i64 q.kind), (Value.string q.key), (Value.string q.en), (Value.string q.val), (Value.int .i64 q.lease), (Value.int .i64 q.rev), (Value.int .i64 q.limit), (Value.int .i64 q.order), (Value.int .i64 q.target), (Value.int .i64 q.minMod), (Value.int .i64 q.maxMod), (Value.int .i64 q.minCreate), (Value.int .i64 q.maxCreate), (Value.bool q.keysOnly), (Value.bool q.countOnly), (Value.bool q.prev), (Value.bool q.ignValue), (Value.bool q.ignLease), (Value.slice q.cA q.cN q.cC), (Value.slice q.tA q.tN q.tC), (Value.slice q.eA q.eN q.eC)] :: ro R :: F) := H9
  have hs9 := sl_RS a9 (Sub.rfl' _)
  have hl9 : (tt ++ ee).length = tt.length + ee.length := by simp
  refine C_loop (γ := Nat) (fun k a w1 => ∃ h : Env, a = mkA 32 (upd (upd h 4 (Value.int .i64 (k : Int))) 3 v22_) [] ∧ Holds w1 (ro R9 :: cl b2_ 40 [(Value.int .i64 q.kind), (Value.string q.key), (Value.string q.en), (Value.string q.val), (Value.int .i64 q.lease), (Value.int .i64 q.rev), (Value.int .i64 q.limit), (Value.int .i64 q.order), (Value.int .i64 q.target), (Value.int .i64 q.minMod), (Value.int .i64 q.maxMod), (Value.int .i64 q.minCreate), (Value.int .i64 q.maxCreate), (Value.bool q.keysOnly), (Value.bool q.countOnly), (Value.bool q.prev), (Value.bool q.ignValue), (Value.bool q.ignLease), (Value.slice q.cA q.cN q.cC), (Value.slice q.tA q.tN q.tC), (Value.slice q.eA q.eN q.eC)] :: ro R :: F) ∧ Same w w1 ∧ (k ≤ (tt ++ ee).length) ∧ (∀ (i : Nat) (y : ReqS), i < k → (tt ++ ee)[i]? = some y → y.kind = 1 ∧ y.prev = true)) (fun k => (tt ++ ee).length - k) (0) ⟨_, congrArg (fun e => mkA 32 e []) (ch (ch rfl (by first | rfl | exact congrArg (Value.int _) (by omega))) (by first | rfl | exact congrArg (Value.int _) (by omega))), H9, S26_, by omega, fun i y hi => by omega⟩ ?_
  rintro k _ w30_ ⟨h, rfl, H31_, S32_, hk, hal⟩
  refine C_seq (fun K33_ hK33_ => ?_)
  refine C_seq (fun K34_ hK34_ => ?_)
  refine C_reg ?_
  refine S_list (T_val (v := (Value.int .i64 (k : Int))) (x_move rfl) ?_)
  refine S_list (T_val (v := v22_) (x_move rfl) ?_)
  refine S_list (T_val (v := (Value.int .i64 ((tt ++ ee).length : Int))) (x_lenRS rfl hs9 Try.underlying38) ?_)
  refine S_list (T_val (v := (Value.bool (decide ((k : Int) < ((tt ++ ee).length : Int))))) (x_bin rfl rfl rfl) ?_)
  refine wpList_nil ?_
  refine (X_then (hK34_ _ _ ?_))
  clear hK34_
  refine C_cond (b := decide ((k : Int) < ((tt ++ ee).length : Int))) rfl (fun c35_t => ?_) (fun c35_f => ?_)
  · have c35_tp : (k : Int) < ((tt ++ ee).length : Int) := of_decide_eq_true c35_t
    refine C_skip (X_then (hK33_ _ _ ?_))
    clear hK33_
    refine C_seq (fun K36_ hK36_ => ?_)
    refine C_block ?_
    refine C_seq (fun K37_ hK37_ => ?_)
    refine C_reg ?_
    refine S_list (T_val (v := v22_) (x_move rfl) ?_)
    refine S_list (T_val (v := (Value.int .i64 (k : Int))) (x_move rfl) ?_)
    obtain ⟨x38_, hx39_, hm40_⟩ := elem_at (tt ++ ee) k (by omega)
    refine S_list (T_val (v := (Value.pointer (some ⟨(sb v22_), so v22_ + (k * 21 + 0), none⟩))) (x_idxRS (v := v22_) rfl hs9 rfl Try.underlying38 z40 (by omega) (by omega) (by omega : _ = k) rfl) ?_)
    refine S_list (T_val (v := (Value.pointer (some ⟨(sb v22_), so v22_ + (k * 21 + 0), none⟩))) (by kernel_rfl) ?_)
    refine S_list (T_val (v := (Value.int .i64 x38_.kind)) (x_load1 rfl Try.underlying3 rfl (RC.cell (RS.rc hs9) (Holds.ro_at H31_ 0 rfl) (j := k * 21 + 0) (u := (Value.int .i64 x38_.kind)) (fm_cell ReqS.len hx39_ (i := 0) rfl))) ?_)
    refine S_list (T_val (v := (Value.bool (decide (x38_.kind ≠ 1)))) (x_bin rfl rfl rfl) ?_)
    refine S_list (T_val (v := (Value.bool (decide (x38_.kind ≠ 1)))) (x_move rfl) ?_)
    rcases Bool.eq_false_or_eq_true (decide (x38_.kind ≠ 1)) with c41_t | c41_f
    · have c41_tp : x38_.kind ≠ 1 := of_decide_eq_true c41_t
      refine S_no (j := 6) (dj := 24) (b := true) rfl rfl (congrArg Value.bool c41_t) (by decide) ?_
      refine S_no (j := 6) (dj := 24) (b := true) rfl rfl (congrArg Value.bool c41_t) (by decide) ?_
      refine S_no (j := 6) (dj := 24) (b := true) rfl rfl (congrArg Value.bool c41_t) (by decide) ?_
      refine S_no (j := 6) (dj := 24) (b := true) rfl rfl (congrArg Value.bool c41_t) (by decide) ?_
      refine S_no (j := 6) (dj := 24) (b := true) rfl rfl (congrArg Value.bool c41_t) (by decide) ?_
      refine S_no (j := 6) (dj := 24) (b := true) rfl rfl (congrArg Value.bool c41_t) (by decide) ?_
      refine S_list (T_pickT (v := (Value.bool true)) (congrArg Value.bool c41_t) rfl ?_)
      refine wpList_nil ?_
      refine (X_then (hK37_ _ _ ?_))
      clear hK37_
      refine C_condT rfl ?_
      refine C_seq (fun K42_ hK42_ => ?_)
      refine C_reg ?_
      refine S_list (T_val (v := (Value.bool false)) (x_assign rfl) ?_)
      refine wpList_nil ?_
      refine (X_then (hK42_ _ _ ?_))
      clear hK42_
      refine C_ret (X_blkR (X_thenR (X_thenR (X_blkR (X_thenR ?_)))))
      refine R_any (v := (Value.bool false)) (run_results1 rfl rfl) ?_
      have H43_ : Holds w30_ (ro R :: F) := (Holds.erase (Holds.erase (Holds.bring H31_ 2 rfl) 1) 1)
      exact ⟨_, [], rfl, ⟨by rw [show (srl tt && srl ee) = false from (List.all_append ..).symm.trans (not_all hx39_ (by first | (simp; omega) | simp_all))], rfl⟩, S32_, H43_⟩
    · have c41_fp : ¬ (x38_.kind ≠ 1) := of_decide_eq_false c41_f
      refine S_yes (j := 6) (dj := 24) (b := false) rfl rfl (congrArg Value.bool c41_f) (T_val (v := v22_) (x_move rfl) ?_)
      refine S_yes (j := 6) (dj := 24) (b := false) rfl rfl (congrArg Value.bool c41_f) (T_val (v := (Value.int .i64 (k : Int))) (x_move rfl) ?_)
      refine S_yes (j := 6) (dj := 24) (b := false) rfl rfl (congrArg Value.bool c41_f) (T_val (v := (Value.pointer (some ⟨(sb v22_), so v22_ + (k * 21 + 0), none⟩))) (x_idxRS (v := v22_) rfl hs9 rfl Try.underlying38 z40 (by omega) (by omega) (by omega : _ = k) rfl) ?_)
      refine S_yes (j := 6) (dj := 24) (b := false) rfl rfl (congrArg Value.bool c41_f) (T_val (v := (Value.pointer (some ⟨(sb v22_), so v22_ + (k * 21 + 15), none⟩))) (by kernel_rfl) ?_)
      refine S_yes (j := 6) (dj := 24) (b := false) rfl rfl (congrArg Value.bool c41_f) (T_val (v := (Value.bool x38_.prev)) (x_load1 rfl Try.underlying4 rfl (RC.cell (RS.rc hs9) (Holds.ro_at H31_ 0 rfl) (j := k * 21 + 15) (u := (Value.bool x38_.prev)) (fm_cell ReqS.len hx39_ (i := 15) rfl))) ?_)
      refine S_yes (j := 6) (dj := 24) (b := false) rfl rfl (congrArg Value.bool c41_f) (T_val (v := (Value.bool (!x38_.prev))) (x_not rfl) ?_)
      refine S_list (T_pickF (v := (Value.bool (!x38_.prev))) (congrArg Value.bool c41_f) rfl ?_)
      refine wpList_nil ?_
      refine (X_then (hK37_ _ _ ?_))
      clear hK37_
      refine C_cond (b := !x38_.prev) rfl (fun c44_t => ?_) (fun c44_f => ?_)
      · skip
        refine C_seq (fun K45_ hK45_ => ?_)
        refine C_reg ?_
        refine S_list (T_val (v := (Value.bool false)) (x_assign rfl) ?_)
        refine wpList_nil ?_
        refine (X_then (hK45_ _ _ ?_))
        clear hK45_
        refine C_ret (X_blkR (X_thenR (X_thenR (X_blkR (X_thenR ?_)))))
        refine R_any (v := (Value.bool false)) (run_results1 rfl rfl) ?_
        have H46_ : Holds w30_ (ro R :: F) := (Holds.erase (Holds.erase (Holds.bring H31_ 2 rfl) 1) 1)
        exact ⟨_, [], rfl, ⟨by rw [show (srl tt && srl ee) = false from (List.all_append ..).symm.trans (not_all hx39_ (by first | (simp; omega) | simp_all))], rfl⟩, S32_, H46_⟩
      · skip
        refine C_skip (X_blkN (X_then (hK36_ _ _ ?_)))
        clear hK36_
        refine C_reg ?_
        refine S_list (T_val (v := (Value.int .i64 (k : Int))) (x_move rfl) ?_)
        refine S_list (T_val (v := (Value.int .i64 ((k : Int) + 1))) (x_bin rfl rfl (ib_add (IntWalk.i64_in _ (by omega)))) ?_)
        refine S_list (T_val (v := (Value.int .i64 ((k : Int) + 1))) (x_assign rfl) ?_)
        refine wpList_nil ?_
        refine (X_then ?_)
        exact ⟨k + 1, ⟨_, congrArg (fun e => mkA 32 e []) (ch (ch rfl (by first | rfl | exact congrArg (Value.int _) (by omega))) (by first | rfl | exact congrArg (Value.int _) (by omega))), H31_, S32_, by omega, fun i y hi hy => by
          rcases Nat.lt_or_ge i k with hlt | hge
          · exact hal i y hlt hy
          · obtain rfl : i = k := by omega
            rw [hx39_] at hy; cases hy; first | (simp_all; done) | (simp_all; omega)⟩, by first | omega | (simp; omega)⟩
  · have c35_fp : ¬ ((k : Int) < ((tt ++ ee).length : Int)) := of_decide_eq_false c35_f
    refine C_exit (X_thenX (X_thenX (X_blkHit ?_)))
    refine (X_then (hK27_ _ _ ?_))
    clear hK27_
    refine C_seq (fun K47_ hK47_ => ?_)
    refine C_reg ?_
    refine S_list (T_val (v := (Value.bool true)) (x_assign rfl) ?_)
    refine wpList_nil ?_
    refine (X_then (hK47_ _ _ ?_))
    clear hK47_
    refine C_ret ?_
    refine R_any (v := (Value.bool true)) (run_results1 rfl rfl) ?_
    have H48_ : Holds w30_ (ro R :: F) := (Holds.erase (Holds.erase (Holds.bring H31_ 2 rfl) 1) 1)
    exact ⟨_, [], rfl, ⟨by rw [show (srl tt && srl ee) = true from (List.all_append ..).symm.trans (all_of fun i y hi hy => by simpa using hal i y (by omega) hy)], rfl⟩, S32_, H48_⟩

set_option maxHeartbeats 1000000 in
theorem kGoodStep (R : HP) (q : ReqS) (cc : List CmpS) (tt ee : List ReqS) (hL : Lists R q cc tt ee) (deep : Int) (iht : ∀ x ∈ tt, ∀ deep : Int, Tri Try.prog 18 #[.agg x.cells.toArray, .int .i64 deep] R [] (fun v post => ∃ (n : Int) (ok : Bool), v = .tuple #[.int .i64 n, .bool ok] ∧ (ok = true → ReqG R x) ∧ post = [])) (ihe : ∀ x ∈ ee, ∀ deep : Int, Tri Try.prog 18 #[.agg x.cells.toArray, .int .i64 deep] R [] (fun v post => ∃ (n : Int) (ok : Bool), v = .tuple #[.int .i64 n, .bool ok] ∧ (ok = true → ReqG R x) ∧ post = [])) :
    Tri Try.prog 18 #[(Value.agg #[(Value.int .i64 q.kind), (Value.string q.key), (Value.string q.en), (Value.string q.val), (Value.int .i64 q.lease), (Value.int .i64 q.rev), (Value.int .i64 q.limit), (Value.int .i64 q.order), (Value.int .i64 q.target), (Value.int .i64 q.minMod), (Value.int .i64 q.maxMod), (Value.int .i64 q.minCreate), (Value.int .i64 q.maxCreate), (Value.bool q.keysOnly), (Value.bool q.countOnly), (Value.bool q.prev), (Value.bool q.ignValue), (Value.bool q.ignLease), (Value.slice q.cA q.cN q.cC), (Value.slice q.tA q.tN q.tC), (Value.slice q.eA q.eN q.eC)]), (Value.int .i64 deep)] R [] (fun v post => ∃ (n : Int) (ok : Bool), v = .tuple #[.int .i64 n, .bool ok] ∧ (ok = true → Good1 R q cc tt ee) ∧ post = []) := by
  refine Tri.into (n := 117) (al := [(Value.agg #[(Value.int .i64 q.kind), (Value.string q.key), (Value.string q.en), (Value.string q.val), (Value.int .i64 q.lease), (Value.int .i64 q.rev), (Value.int .i64 q.limit), (Value.int .i64 q.order), (Value.int .i64 q.target), (Value.int .i64 q.minMod), (Value.int .i64 q.maxMod), (Value.int .i64 q.minCreate), (Value.int .i64 q.maxCreate), (Value.bool q.keysOnly), (Value.bool q.countOnly), (Value.bool q.prev), (Value.bool q.ignValue), (Value.bool q.ignLease), (Value.slice q.cA q.cN q.cC), (Value.slice q.tA q.tN q.tC), (Value.slice q.eA q.eN q.eC)]), (Value.int .i64 deep)]) Try.func18 rfl Try.ntmps18 rfl rfl fun w F H => ?_
  replace H : Holds w (ro R :: F) := H
  refine C_seq (fun K1_ hK1_ => ?_)
  refine C_reg ?_
  refine S_list (T_box (v := (Value.agg #[(Value.int .i64 q.kind), (Value.string q.key), (Value.string q.en), (Value.string q.val), (Value.int .i64 q.lease), (Value.int .i64 q.rev), (Value.int .i64 q.limit), (Value.int .i64 q.order), (Value.int .i64 q.target), (Value.int .i64 q.minMod), (Value.int .i64 q.maxMod), (Value.int .i64 q.minCreate), (Value.int .i64 q.maxCreate), (Value.bool q.keysOnly), (Value.bool q.countOnly), (Value.bool q.prev), (Value.bool q.ignValue), (Value.bool q.ignLease), (Value.slice q.cA q.cN q.cC), (Value.slice q.tA q.tN q.tC), (Value.slice q.eA q.eN q.eC)])) rfl H ?_)
  intro b2_ w3_ S5_ H4_
  replace H4_ : Holds w3_ (cl b2_ 40 [(Value.int .i64 q.kind), (Value.string q.key), (Value.string q.en), (Value.string q.val), (Value.int .i64 q.lease), (Value.int .i64 q.rev), (Value.int .i64 q.limit), (Value.int .i64 q.order), (Value.int .i64 q.target), (Value.int .i64 q.minMod), (Value.int .i64 q.maxMod), (Value.int .i64 q.minCreate), (Value.int .i64 q.maxCreate), (Value.bool q.keysOnly), (Value.bool q.countOnly), (Value.bool q.prev), (Value.bool q.ignValue), (Value.bool q.ignLease), (Value.slice q.cA q.cN q.cC), (Value.slice q.tA q.tN q.tC), (Value.slice q.eA q.eN q.eC)] :: ro R :: F) := H4_
  have S6_ := Same.trans (Same.refl w) S5_
  refine S_list (T_val (v := (Value.int .i64 0)) (x_assign rfl) ?_)
  refine S_list (T_val (v := (Value.bool false)) (x_assign rfl) ?_)
  refine wpList_nil ?_
  refine (X_then (hK1_ _ _ ?_))
  clear hK1_
  refine C_seq (fun K7_ hK7_ => ?_)
  refine C_reg ?_
  refine S_list (T_val (v := (Value.int .i64 1)) (x_assign rfl) ?_)
  refine wpList_nil ?_
  refine (X_then (hK7_ _ _ ?_))
  clear hK7_
  refine C_seq (fun K8_ hK8_ => ?_)
  refine C_seq (fun K9_ hK9_ => ?_)
  refine C_reg ?_
  refine S_list (T_val (v := (Value.pointer (some ⟨b2_, 0, none⟩))) (by kernel_rfl) ?_)
  refine S_list (T_val (v := (Value.int .i64 q.kind)) (x_load1 rfl Try.underlying3 rfl ((Holds.rd H4_ 0 rfl) 0 (Value.int .i64 q.kind) rfl)) ?_)
  refine wpList_nil ?_
  refine (X_then (hK9_ _ _ ?_))
  clear hK9_
  refine C_block ?_
  refine C_seq (fun K10_ hK10_ => ?_)
  refine C_reg ?_
  refine S_list (T_val (v := (Value.bool (decide (q.kind = 1)))) (x_bin rfl rfl rfl) ?_)
  refine S_list (T_val (v := (Value.bool (decide (q.kind = 1)))) (x_assign rfl) ?_)
  refine wpList_nil ?_
  refine (X_then (hK10_ _ _ ?_))
  clear hK10_
  refine C_cond (b := decide (q.kind = 1)) rfl (fun c11_t => ?_) (fun c11_f => ?_)
  · have c11_tp : q.kind = 1 := of_decide_eq_true c11_t
    refine C_seq (fun K12_ hK12_ => ?_)
    refine C_reg ?_
    refine S_list (T_val (v := (Value.int .i64 1)) (x_move rfl) ?_)
    refine S_list (T_val (v := (Value.agg #[(Value.int .i64 q.kind), (Value.string q.key), (Value.string q.en), (Value.string q.val), (Value.int .i64 q.lease), (Value.int .i64 q.rev), (Value.int .i64 q.limit), (Value.int .i64 q.order), (Value.int .i64 q.target), (Value.int .i64 q.minMod), (Value.int .i64 q.maxMod), (Value.int .i64 q.minCreate), (Value.int .i64 q.maxCreate), (Value.bool q.keysOnly), (Value.bool q.countOnly), (Value.bool q.prev), (Value.bool q.ignValue), (Value.bool q.ignLease), (Value.slice q.cA q.cN q.cC), (Value.slice q.tA q.tN q.tC), (Value.slice q.eA q.eN q.eC)])) (x_loadN (vs := [(Value.int .i64 q.kind), (Value.string q.key), (Value.string q.en), (Value.string q.val), (Value.int .i64 q.lease), (Value.int .i64 q.rev), (Value.int .i64 q.limit), (Value.int .i64 q.order), (Value.int .i64 q.target), (Value.int .i64 q.minMod), (Value.int .i64 q.maxMod), (Value.int .i64 q.minCreate), (Value.int .i64 q.maxCreate), (Value.bool q.keysOnly), (Value.bool q.countOnly), (Value.bool q.prev), (Value.bool q.ignValue), (Value.bool q.ignLease), (Value.slice q.cA q.cN q.cC), (Value.slice q.tA q.tN q.tC), (Value.slice q.eA q.eN q.eC)]) rfl Try.underlying40 rfl z40 rfl (Rd.cells (Holds.rd H4_ 0 rfl) 0 rfl)) ?_)
    have H14_ : Holds w3_ (ro R :: cl b2_ 40 [(Value.int .i64 q.kind), (Value.string q.key), (Value.string q.en), (Value.string q.val), (Value.int .i64 q.lease), (Value.int .i64 q.rev), (Value.int .i64 q.limit), (Value.int .i64 q.order), (Value.int .i64 q.target), (Value.int .i64 q.minMod), (Value.int .i64 q.maxMod), (Value.int .i64 q.minCreate), (Value.int .i64 q.maxCreate), (Value.bool q.keysOnly), (Value.bool q.countOnly), (Value.bool q.prev), (Value.bool q.ignValue), (Value.bool q.ignLease), (Value.slice q.cA q.cN q.cC), (Value.slice q.tA q.tN q.tC), (Value.slice q.eA q.eN q.eC)] :: F) := (Holds.bring H4_ 1 rfl)
    refine S_list (T_call (al := [(Value.agg #[(Value.int .i64 q.kind), (Value.string q.key), (Value.string q.en), (Value.string q.val), (Value.int .i64 q.lease), (Value.int .i64 q.rev), (Value.int .i64 q.limit), (Value.int .i64 q.order), (Value.int .i64 q.target), (Value.int .i64 q.minMod), (Value.int .i64 q.maxMod), (Value.int .i64 q.minCreate), (Value.int .i64 q.maxCreate), (Value.bool q.keysOnly), (Value.bool q.countOnly), (Value.bool q.prev), (Value.bool q.ignValue), (Value.bool q.ignLease), (Value.slice q.cA q.cN q.cC), (Value.slice q.tA q.tN q.tC), (Value.slice q.eA q.eN q.eC)])]) (pre := []) (F := cl b2_ 40 [(Value.int .i64 q.kind), (Value.string q.key), (Value.string q.en), (Value.string q.val), (Value.int .i64 q.lease), (Value.int .i64 q.rev), (Value.int .i64 q.limit), (Value.int .i64 q.order), (Value.int .i64 q.target), (Value.int .i64 q.minMod), (Value.int .i64 q.maxMod), (Value.int .i64 q.minCreate), (Value.int .i64 q.maxCreate), (Value.bool q.keysOnly), (Value.bool q.countOnly), (Value.bool q.prev), (Value.bool q.ignValue), (Value.bool q.ignLease), (Value.slice q.cA q.cN q.cC), (Value.slice q.tA q.tN q.tC), (Value.slice q.eA q.eN q.eC)] :: F) rfl rfl cb41 (kTxnRange R q) H14_ ?_)
    rintro v18_ p19_ w15_ ⟨⟨q13_, rfl⟩, rfl⟩ S17_ H16_
    replace H16_ : Holds w15_ (ro R :: cl b2_ 40 [(Value.int .i64 q.kind), (Value.string q.key), (Value.string q.en), (Value.string q.val), (Value.int .i64 q.lease), (Value.int .i64 q.rev), (Value.int .i64 q.limit), (Value.int .i64 q.order), (Value.int .i64 q.target), (Value.int .i64 q.minMod), (Value.int .i64 q.maxMod), (Value.int .i64 q.minCreate), (Value.int .i64 q.maxCreate), (Value.bool q.keysOnly), (Value.bool q.countOnly), (Value.bool q.prev), (Value.bool q.ignValue), (Value.bool q.ignLease), (Value.slice q.cA q.cN q.cC), (Value.slice q.tA q.tN q.tC), (Value.slice q.eA q.eN q.eC)] :: F) := H16_
    have S20_ := Same.trans S6_ S17_
    refine S_list (T_val (v := (Value.int .i64 1)) (x_assign rfl) ?_)
    refine S_list (T_val (v := (Value.bool q13_)) (x_assign rfl) ?_)
    refine wpList_nil ?_
    refine (X_then (hK12_ _ _ ?_))
    clear hK12_
    refine C_ret (X_blkR (X_thenR ?_))
    refine R_any (v := (Value.tuple #[(Value.int .i64 1), (Value.bool q13_)])) (run_results2 rfl rfl rfl) ?_
    have H21_ : Holds w15_ (ro R :: F) := (Holds.erase (Holds.bring H16_ 0 rfl) 1)
    exact ⟨_, [], rfl, ⟨_, _, rfl, (fun h => ⟨by omega, by omega, fun h4 => absurd h4 (by omega)⟩), rfl⟩, S20_, H21_⟩
  · have c11_fp : ¬ (q.kind = 1) := of_decide_eq_false c11_f
    refine C_seq (fun K22_ hK22_ => ?_)
    refine C_reg ?_
    refine S_list (T_val (v := (Value.bool (decide (q.kind = 2)))) (x_bin rfl rfl rfl) ?_)
    refine S_list (T_val (v := (Value.bool (decide (q.kind = 2)))) (x_assign rfl) ?_)
    refine wpList_nil ?_
    refine (X_then (hK22_ _ _ ?_))
    clear hK22_
    refine C_cond (b := decide (q.kind = 2)) rfl (fun c23_t => ?_) (fun c23_f => ?_)
    · have c23_tp : q.kind = 2 := of_decide_eq_true c23_t
      refine C_seq (fun K24_ hK24_ => ?_)
      refine A_start (S := fun w => Rd b2_ [(Value.int .i64 q.kind), (Value.string q.key), (Value.string q.en), (Value.string q.val), (Value.int .i64 q.lease), (Value.int .i64 q.rev), (Value.int .i64 q.limit), (Value.int .i64 q.order), (Value.int .i64 q.target), (Value.int .i64 q.minMod), (Value.int .i64 q.maxMod), (Value.int .i64 q.minCreate), (Value.int .i64 q.maxCreate), (Value.bool q.keysOnly), (Value.bool q.countOnly), (Value.bool q.prev), (Value.bool q.ignValue), (Value.bool q.ignLease), (Value.slice q.cA q.cN q.cC), (Value.slice q.tA q.tN q.tC), (Value.slice q.eA q.eN q.eC)] w ∧ Sub R (hp w)) (N := 16) foll rfl rfl ?_
      have H26_ : Holds w3_.drew (cl b2_ 40 [(Value.int .i64 q.kind), (Value.string q.key), (Value.string q.en), (Value.string q.val), (Value.int .i64 q.lease), (Value.int .i64 q.rev), (Value.int .i64 q.limit), (Value.int .i64 q.order), (Value.int .i64 q.target), (Value.int .i64 q.minMod), (Value.int .i64 q.maxMod), (Value.int .i64 q.minCreate), (Value.int .i64 q.maxCreate), (Value.bool q.keysOnly), (Value.bool q.countOnly), (Value.bool q.prev), (Value.bool q.ignValue), (Value.bool q.ignLease), (Value.slice q.cA q.cN q.cC), (Value.slice q.tA q.tN q.tC), (Value.slice q.eA q.eN q.eC)] :: ro R :: F) := H4_
      refine A_take 0 (ls' := #[true, false, false, false, false, false, false, false, false, false, false, false, false, false, false, false]) (v := (Value.int .i64 1)) rfl (by kernel_rfl) (by kernel_rfl) (by kernel_rfl) (by kernel_rfl) (fun _ _ _ h => h) (fun w hS => x_move rfl) ⟨Holds.rd H26_ 0 rfl, Holds.ro_at H26_ 1 rfl⟩ ?_
      refine A_take 1 (ls' := #[true, true, false, false, false, false, false, false, false, false, false, false, false, false, false, false]) (v := (Value.pointer (some ⟨b2_, 1, none⟩))) rfl (by kernel_rfl) (by kernel_rfl) (by kernel_rfl) (by kernel_rfl) (fun _ _ _ h => h) (fun w hS => by kernel_rfl) ⟨Holds.rd H26_ 0 rfl, Holds.ro_at H26_ 1 rfl⟩ ?_
      refine A_take 2 (ls' := #[true, true, true, false, false, false, false, false, false, false, false, false, false, false, false, false]) (v := (Value.string q.key)) rfl (by kernel_rfl) (by kernel_rfl) (by kernel_rfl) (by kernel_rfl) (fun _ _ _ h => h) (fun w hS => x_load1 rfl Try.underlying9 rfl (hS.1 1 (Value.string q.key) rfl)) ⟨Holds.rd H26_ 0 rfl, Holds.ro_at H26_ 1 rfl⟩ ?_
      refine A_ready (i := 3) (rs := []) (by kernel_rfl) ?_
      refine AllR.cons ?_ AllR.nil
      refine A_op (ls' := #[true, true, true, true, false, false, false, false, false, false, false, false, false, false, false, false]) rfl (by kernel_rfl) (T_callW (al := [(Value.string q.key)]) rfl rfl cb34 (Calls.into (n := 6) (al := [(Value.string q.key)]) Try.func34 rfl Try.ntmps34 rfl rfl ?_))
      refine C_seq (fun K27_ hK27_ => ?_)
      refine C_reg ?_
      refine S_list (T_val (v := (Value.bool false)) (x_assign rfl) ?_)
      refine wpList_nil ?_
      refine (X_then (hK27_ _ _ ?_))
      clear hK27_
      refine C_seq (fun K28_ hK28_ => ?_)
      refine C_reg ?_
      refine S_list (T_val (v := (Value.string q.key)) (x_move rfl) ?_)
      refine S_list (T_val (v := (Value.int .i64 (q.key.size : Int))) (x_lenT rfl Try.underlying9) ?_)
      refine S_list (T_val (v := (Value.bool (decide ((q.key.size : Int) ≤ 64)))) (x_bin rfl rfl rfl) ?_)
      refine S_list (T_val (v := (Value.bool (decide ((q.key.size : Int) ≤ 64)))) (x_assign rfl) ?_)
      refine wpList_nil ?_
      refine (X_then (hK28_ _ _ ?_))
      clear hK28_
      refine C_ret ?_
      refine R_any (v := (Value.bool (decide ((q.key.size : Int) ≤ 64)))) (run_results1 rfl rfl) ⟨_, rfl, ?_⟩
      refine ⟨⟨Holds.rd H26_ 0 rfl, Holds.ro_at H26_ 1 rfl⟩, ?_⟩
      refine A_take 4 (ls' := #[true, true, true, true, true, false, false, false, false, false, false, false, false, false, false, false]) (v := (Value.bool (decide ((q.key.size : Int) ≤ 64)))) rfl (by kernel_rfl) (by kernel_rfl) (by kernel_rfl) (by kernel_rfl) (fun _ _ _ h => h) (fun w hS => x_move rfl) ⟨Holds.rd H26_ 0 rfl, Holds.ro_at H26_ 1 rfl⟩ ?_
      rcases Bool.eq_false_or_eq_true (decide ((q.key.size : Int) ≤ 64)) with c29_t | c29_f
      · have c29_tp : (q.key.size : Int) ≤ 64 := of_decide_eq_true c29_t
        refine A_takeYes 5 (ls' := #[true, true, true, true, true, true, false, false, false, false, false, false, false, false, false, false]) (j := 4) (dj := 28) (b := true) (v := (Value.pointer (some ⟨b2_, 3, none⟩))) rfl (by kernel_rfl) (by kernel_rfl) (by kernel_rfl) (by kernel_rfl) (fun _ _ _ h => h) rfl rfl (congrArg Value.bool c29_t) (fun w hS => by kernel_rfl) ⟨Holds.rd H26_ 0 rfl, Holds.ro_at H26_ 1 rfl⟩ ?_
        refine A_takeYes 6 (ls' := #[true, true, true, true, true, true, true, false, false, false, false, false, false, false, false, false]) (j := 4) (dj := 28) (b := true) (v := (Value.string q.val)) rfl (by kernel_rfl) (by kernel_rfl) (by kernel_rfl) (by kernel_rfl) (fun _ _ _ h => h) rfl rfl (congrArg Value.bool c29_t) (fun w hS => x_load1 rfl Try.underlying9 rfl (hS.1 3 (Value.string q.val) rfl)) ⟨Holds.rd H26_ 0 rfl, Holds.ro_at H26_ 1 rfl⟩ ?_
        refine A_ready (i := 7) (rs := []) (by kernel_rfl) ?_
        refine AllR.cons ?_ AllR.nil
        refine A_opYes (ls' := #[true, true, true, true, true, true, true, true, false, false, false, false, false, false, false, false]) (j := 4) (dj := 28) (b := true) rfl (by kernel_rfl) rfl rfl (congrArg Value.bool c29_t) (T_callW (al := [(Value.string q.val)]) rfl rfl cb34 (Calls.into (n := 6) (al := [(Value.string q.val)]) Try.func34 rfl Try.ntmps34 rfl rfl ?_))
        refine C_seq (fun K30_ hK30_ => ?_)
        refine C_reg ?_
        refine S_list (T_val (v := (Value.bool false)) (x_assign rfl) ?_)
        refine wpList_nil ?_
        refine (X_then (hK30_ _ _ ?_))
        clear hK30_
        refine C_seq (fun K31_ hK31_ => ?_)
        refine C_reg ?_
        refine S_list (T_val (v := (Value.string q.val)) (x_move rfl) ?_)
        refine S_list (T_val (v := (Value.int .i64 (q.val.size : Int))) (x_lenT rfl Try.underlying9) ?_)
        refine S_list (T_val (v := (Value.bool (decide ((q.val.size : Int) ≤ 64)))) (x_bin rfl rfl rfl) ?_)
        refine S_list (T_val (v := (Value.bool (decide ((q.val.size : Int) ≤ 64)))) (x_assign rfl) ?_)
        refine wpList_nil ?_
        refine (X_then (hK31_ _ _ ?_))
        clear hK31_
        refine C_ret ?_
        refine R_any (v := (Value.bool (decide ((q.val.size : Int) ≤ 64)))) (run_results1 rfl rfl) ⟨_, rfl, ?_⟩
        refine ⟨⟨Holds.rd H26_ 0 rfl, Holds.ro_at H26_ 1 rfl⟩, ?_⟩
        refine A_take 8 (ls' := #[true, true, true, true, true, true, true, true, true, false, false, false, false, false, false, false]) (v := (Value.bool (decide ((q.val.size : Int) ≤ 64)))) rfl (by kernel_rfl) (by kernel_rfl) (by kernel_rfl) (by kernel_rfl) (fun _ _ _ h => h) (fun w hS => (x_pickT (congrArg Value.bool c29_t) rfl)) ⟨Holds.rd H26_ 0 rfl, Holds.ro_at H26_ 1 rfl⟩ ?_
        refine A_take 9 (ls' := #[true, true, true, true, true, true, true, true, true, true, false, false, false, false, false, false]) (v := (Value.bool (decide ((q.val.size : Int) ≤ 64)))) rfl (by kernel_rfl) (by kernel_rfl) (by kernel_rfl) (by kernel_rfl) (fun _ _ _ h => h) (fun w hS => x_move rfl) ⟨Holds.rd H26_ 0 rfl, Holds.ro_at H26_ 1 rfl⟩ ?_
        rcases Bool.eq_false_or_eq_true (decide ((q.val.size : Int) ≤ 64)) with c32_t | c32_f
        · have c32_tp : (q.val.size : Int) ≤ 64 := of_decide_eq_true c32_t
          refine A_takeYes 10 (ls' := #[true, true, true, true, true, true, true, true, true, true, true, false, false, false, false, false]) (j := 9) (dj := 33) (b := true) (v := (Value.pointer (some ⟨b2_, 4, none⟩))) rfl (by kernel_rfl) (by kernel_rfl) (by kernel_rfl) (by kernel_rfl) (fun _ _ _ h => h) rfl rfl (congrArg Value.bool c32_t) (fun w hS => by kernel_rfl) ⟨Holds.rd H26_ 0 rfl, Holds.ro_at H26_ 1 rfl⟩ ?_
          refine A_takeYes 11 (ls' := #[true, true, true, true, true, true, true, true, true, true, true, true, false, false, false, false]) (j := 9) (dj := 33) (b := true) (v := (Value.int .i64 q.lease)) rfl (by kernel_rfl) (by kernel_rfl) (by kernel_rfl) (by kernel_rfl) (fun _ _ _ h => h) rfl rfl (congrArg Value.bool c32_t) (fun w hS => x_load1 rfl Try.underlying2 rfl (hS.1 4 (Value.int .i64 q.lease) rfl)) ⟨Holds.rd H26_ 0 rfl, Holds.ro_at H26_ 1 rfl⟩ ?_
          refine A_takeYes 12 (ls' := #[true, true, true, true, true, true, true, true, true, true, true, true, true, false, false, false]) (j := 9) (dj := 33) (b := true) (v := (Value.bool (decide (0 ≤ q.lease)))) rfl (by kernel_rfl) (by kernel_rfl) (by kernel_rfl) (by kernel_rfl) (fun _ _ _ h => h) rfl rfl (congrArg Value.bool c32_t) (fun w hS => x_bin rfl rfl rfl) ⟨Holds.rd H26_ 0 rfl, Holds.ro_at H26_ 1 rfl⟩ ?_
          refine A_take 13 (ls' := #[true, true, true, true, true, true, true, true, true, true, true, true, true, true, false, false]) (v := (Value.bool (decide (0 ≤ q.lease)))) rfl (by kernel_rfl) (by kernel_rfl) (by kernel_rfl) (by kernel_rfl) (fun _ _ _ h => h) (fun w hS => (x_pickT (congrArg Value.bool c32_t) rfl)) ⟨Holds.rd H26_ 0 rfl, Holds.ro_at H26_ 1 rfl⟩ ?_
          refine A_take 14 (ls' := #[true, true, true, true, true, true, true, true, true, true, true, true, true, true, true, false]) (v := (Value.int .i64 1)) rfl (by kernel_rfl) (by kernel_rfl) (by kernel_rfl) (by kernel_rfl) (fun _ _ _ h => h) (fun w hS => x_assign rfl) ⟨Holds.rd H26_ 0 rfl, Holds.ro_at H26_ 1 rfl⟩ ?_
          refine A_take 15 (ls' := #[true, true, true, true, true, true, true, true, true, true, true, true, true, true, true, true]) (v := (Value.bool (decide (0 ≤ q.lease)))) rfl (by kernel_rfl) (by kernel_rfl) (by kernel_rfl) (by kernel_rfl) (fun _ _ _ h => h) (fun w hS => x_assign rfl) ⟨Holds.rd H26_ 0 rfl, Holds.ro_at H26_ 1 rfl⟩ ?_
          refine A_done (by kernel_rfl) ?_
          refine (X_then (hK24_ _ _ ?_))
          clear hK24_
          refine C_ret (X_blkR (X_thenR ?_))
          refine R_any (v := (Value.tuple #[(Value.int .i64 1), (Value.bool (decide (0 ≤ q.lease)))])) (run_results2 rfl rfl rfl) ?_
          have H33_ : Holds w3_.drew (ro R :: F) := (Holds.erase (Holds.bring H26_ 1 rfl) 1)
          exact ⟨_, [], rfl, ⟨_, _, rfl, (fun h => ⟨by omega, by omega, fun h4 => absurd h4 (by omega)⟩), rfl⟩, (Same.trans S6_ (Same.drew _)), H33_⟩
        · have c32_fp : ¬ ((q.val.size : Int) ≤ 64) := of_decide_eq_false c32_f
          refine A_takeNo 10 (ls' := #[true, true, true, true, true, true, true, true, true, true, true, false, false, false, false, false]) (j := 9) (dj := 33) (b := false) rfl (by kernel_rfl) (by kernel_rfl) (by kernel_rfl) (by kernel_rfl) (fun _ _ _ h => h) rfl rfl (congrArg Value.bool c32_f) (by decide) ⟨Holds.rd H26_ 0 rfl, Holds.ro_at H26_ 1 rfl⟩ ?_
          refine A_takeNo 11 (ls' := #[true, true, true, true, true, true, true, true, true, true, true, true, false, false, false, false]) (j := 9) (dj := 33) (b := false) rfl (by kernel_rfl) (by kernel_rfl) (by kernel_rfl) (by kernel_rfl) (fun _ _ _ h => h) rfl rfl (congrArg Value.bool c32_f) (by decide) ⟨Holds.rd H26_ 0 rfl, Holds.ro_at H26_ 1 rfl⟩ ?_
          refine A_takeNo 12 (ls' := #[true, true, true, true, true, true, true, true, true, true, true, true, true, false, false, false]) (j := 9) (dj := 33) (b := false) rfl (by kernel_rfl) (by kernel_rfl) (by kernel_rfl) (by kernel_rfl) (fun _ _ _ h => h) rfl rfl (congrArg Value.bool c32_f) (by decide) ⟨Holds.rd H26_ 0 rfl, Holds.ro_at H26_ 1 rfl⟩ ?_
          refine A_take 13 (ls' := #[true, true, true, true, true, true, true, true, true, true, true, true, true, true, false, false]) (v := (Value.bool false)) rfl (by kernel_rfl) (by kernel_rfl) (by kernel_rfl) (by kernel_rfl) (fun _ _ _ h => h) (fun w hS => (x_pickF (congrArg Value.bool c32_f) rfl)) ⟨Holds.rd H26_ 0 rfl, Holds.ro_at H26_ 1 rfl⟩ ?_
          refine A_take 14 (ls' := #[true, true, true, true, true, true, true, true, true, true, true, true, true, true, true, false]) (v := (Value.int .i64 1)) rfl (by kernel_rfl) (by kernel_rfl) (by kernel_rfl) (by kernel_rfl) (fun _ _ _ h => h) (fun w hS => x_assign rfl) ⟨Holds.rd H26_ 0 rfl, Holds.ro_at H26_ 1 rfl⟩ ?_
          refine A_take 15 (ls' := #[true, true, true, true, true, true, true, true, true, true, true, true, true, true, true, true]) (v := (Value.bool false)) rfl (by kernel_rfl) (by kernel_rfl) (by kernel_rfl) (by kernel_rfl) (fun _ _ _ h => h) (fun w hS => x_assign rfl) ⟨Holds.rd H26_ 0 rfl, Holds.ro_at H26_ 1 rfl⟩ ?_
          refine A_done (by kernel_rfl) ?_
          refine (X_then (hK24_ _ _ ?_))
          clear hK24_
          refine C_ret (X_blkR (X_thenR ?_))
          refine R_any (v := (Value.tuple #[(Value.int .i64 1), (Value.bool false)])) (run_results2 rfl rfl rfl) ?_
          have H34_ : Holds w3_.drew (ro R :: F) := (Holds.erase (Holds.bring H26_ 1 rfl) 1)
          exact ⟨_, [], rfl, ⟨_, _, rfl, (fun h => by cases h), rfl⟩, (Same.trans S6_ (Same.drew _)), H34_⟩
      · have c29_fp : ¬ ((q.key.size : Int) ≤ 64) := of_decide_eq_false c29_f
        refine A_takeNo 5 (ls' := #[true, true, true, true, true, true, false, false, false, false, false, false, false, false, false, false]) (j := 4) (dj := 28) (b := false) rfl (by kernel_rfl) (by kernel_rfl) (by kernel_rfl) (by kernel_rfl) (fun _ _ _ h => h) rfl rfl (congrArg Value.bool c29_f) (by decide) ⟨Holds.rd H26_ 0 rfl, Holds.ro_at H26_ 1 rfl⟩ ?_
        refine A_takeNo 6 (ls' := #[true, true, true, true, true, true, true, false, false, false, false, false, false, false, false, false]) (j := 4) (dj := 28) (b := false) rfl (by kernel_rfl) (by kernel_rfl) (by kernel_rfl) (by kernel_rfl) (fun _ _ _ h => h) rfl rfl (congrArg Value.bool c29_f) (by decide) ⟨Holds.rd H26_ 0 rfl, Holds.ro_at H26_ 1 rfl⟩ ?_
        refine A_takeNo 7 (ls' := #[true, true, true, true, true, true, true, true, false, false, false, false, false, false, false, false]) (j := 4) (dj := 28) (b := false) rfl (by kernel_rfl) (by kernel_rfl) (by kernel_rfl) (by kernel_rfl) (fun _ _ _ h => h) rfl rfl (congrArg Value.bool c29_f) (by decide) ⟨Holds.rd H26_ 0 rfl, Holds.ro_at H26_ 1 rfl⟩ ?_
        refine A_take 8 (ls' := #[true, true, true, true, true, true, true, true, true, false, false, false, false, false, false, false]) (v := (Value.bool false)) rfl (by kernel_rfl) (by kernel_rfl) (by kernel_rfl) (by kernel_rfl) (fun _ _ _ h => h) (fun w hS => (x_pickF (congrArg Value.bool c29_f) rfl)) ⟨Holds.rd H26_ 0 rfl, Holds.ro_at H26_ 1 rfl⟩ ?_
        refine A_take 9 (ls' := #[true, true, true, true, true, true, true, true, true, true, false, false, false, false, false, false]) (v := (Value.bool false)) rfl (by kernel_rfl) (by kernel_rfl) (by kernel_rfl) (by kernel_rfl) (fun _ _ _ h => h) (fun w hS => x_move rfl) ⟨Holds.rd H26_ 0 rfl, Holds.ro_at H26_ 1 rfl⟩ ?_
        refine A_takeNo 10 (ls' := #[true, true, true, true, true, true, true, true, true, true, true, false, false, false, false, false]) (j := 9) (dj := 33) (b := false) rfl (by kernel_rfl) (by kernel_rfl) (by kernel_rfl) (by kernel_rfl) (fun _ _ _ h => h) rfl rfl rfl (by decide) ⟨Holds.rd H26_ 0 rfl, Holds.ro_at H26_ 1 rfl⟩ ?_
        refine A_takeNo 11 (ls' := #[true, true, true, true, true, true, true, true, true, true, true, true, false, false, false, false]) (j := 9) (dj := 33) (b := false) rfl (by kernel_rfl) (by kernel_rfl) (by kernel_rfl) (by kernel_rfl) (fun _ _ _ h => h) rfl rfl rfl (by decide) ⟨Holds.rd H26_ 0 rfl, Holds.ro_at H26_ 1 rfl⟩ ?_
        refine A_takeNo 12 (ls' := #[true, true, true, true, true, true, true, true, true, true, true, true, true, false, false, false]) (j := 9) (dj := 33) (b := false) rfl (by kernel_rfl) (by kernel_rfl) (by kernel_rfl) (by kernel_rfl) (fun _ _ _ h => h) rfl rfl rfl (by decide) ⟨Holds.rd H26_ 0 rfl, Holds.ro_at H26_ 1 rfl⟩ ?_
        refine A_take 13 (ls' := #[true, true, true, true, true, true, true, true, true, true, true, true, true, true, false, false]) (v := (Value.bool false)) rfl (by kernel_rfl) (by kernel_rfl) (by kernel_rfl) (by kernel_rfl) (fun _ _ _ h => h) (fun w hS => (x_pickF rfl rfl)) ⟨Holds.rd H26_ 0 rfl, Holds.ro_at H26_ 1 rfl⟩ ?_
        refine A_take 14 (ls' := #[true, true, true, true, true, true, true, true, true, true, true, true, true, true, true, false]) (v := (Value.int .i64 1)) rfl (by kernel_rfl) (by kernel_rfl) (by kernel_rfl) (by kernel_rfl) (fun _ _ _ h => h) (fun w hS => x_assign rfl) ⟨Holds.rd H26_ 0 rfl, Holds.ro_at H26_ 1 rfl⟩ ?_
        refine A_take 15 (ls' := #[true, true, true, true, true, true, true, true, true, true, true, true, true, true, true, true]) (v := (Value.bool false)) rfl (by kernel_rfl) (by kernel_rfl) (by kernel_rfl) (by kernel_rfl) (fun _ _ _ h => h) (fun w hS => x_assign rfl) ⟨Holds.rd H26_ 0 rfl, Holds.ro_at H26_ 1 rfl⟩ ?_
        refine A_done (by kernel_rfl) ?_
        refine (X_then (hK24_ _ _ ?_))
        clear hK24_
        refine C_ret (X_blkR (X_thenR ?_))
        refine R_any (v := (Value.tuple #[(Value.int .i64 1), (Value.bool false)])) (run_results2 rfl rfl rfl) ?_
        have H35_ : Holds w3_.drew (ro R :: F) := (Holds.erase (Holds.bring H26_ 1 rfl) 1)
        exact ⟨_, [], rfl, ⟨_, _, rfl, (fun h => by cases h), rfl⟩, (Same.trans S6_ (Same.drew _)), H35_⟩
    · have c23_fp : ¬ (q.kind = 2) := of_decide_eq_false c23_f
      refine C_seq (fun K36_ hK36_ => ?_)
      refine C_reg ?_
      refine S_list (T_val (v := (Value.bool (decide (q.kind = 3)))) (x_bin rfl rfl rfl) ?_)
      refine S_list (T_val (v := (Value.bool (decide (q.kind = 3)))) (x_assign rfl) ?_)
      refine wpList_nil ?_
      refine (X_then (hK36_ _ _ ?_))
      clear hK36_
      refine C_cond (b := decide (q.kind = 3)) rfl (fun c37_t => ?_) (fun c37_f => ?_)
      · have c37_tp : q.kind = 3 := of_decide_eq_true c37_t
        refine C_seq (fun K38_ hK38_ => ?_)
        refine C_reg ?_
        refine S_list (T_val (v := (Value.int .i64 1)) (x_move rfl) ?_)
        refine S_list (T_val (v := (Value.pointer (some ⟨b2_, 1, none⟩))) (by kernel_rfl) ?_)
        refine S_list (T_val (v := (Value.string q.key)) (x_load1 rfl Try.underlying9 rfl ((Holds.rd H4_ 0 rfl) 1 (Value.string q.key) rfl)) ?_)
        refine S_list (T_callW (al := [(Value.string q.key)]) rfl rfl cb34 (Calls.into (n := 6) (al := [(Value.string q.key)]) Try.func34 rfl Try.ntmps34 rfl rfl ?_))
        refine C_seq (fun K39_ hK39_ => ?_)
        refine C_reg ?_
        refine S_list (T_val (v := (Value.bool false)) (x_assign rfl) ?_)
        refine wpList_nil ?_
        refine (X_then (hK39_ _ _ ?_))
        clear hK39_
        refine C_seq (fun K40_ hK40_ => ?_)
        refine C_reg ?_
        refine S_list (T_val (v := (Value.string q.key)) (x_move rfl) ?_)
        refine S_list (T_val (v := (Value.int .i64 (q.key.size : Int))) (x_lenT rfl Try.underlying9) ?_)
        refine S_list (T_val (v := (Value.bool (decide ((q.key.size : Int) ≤ 64)))) (x_bin rfl rfl rfl) ?_)
        refine S_list (T_val (v := (Value.bool (decide ((q.key.size : Int) ≤ 64)))) (x_assign rfl) ?_)
        refine wpList_nil ?_
        refine (X_then (hK40_ _ _ ?_))
        clear hK40_
        refine C_ret ?_
        refine R_any (v := (Value.bool (decide ((q.key.size : Int) ≤ 64)))) (run_results1 rfl rfl) ⟨_, rfl, ?_⟩
        refine S_list (T_val (v := (Value.bool (decide ((q.key.size : Int) ≤ 64)))) (x_move rfl) ?_)
        rcases Bool.eq_false_or_eq_true (decide ((q.key.size : Int) ≤ 64)) with c41_t | c41_f
        · have c41_tp : (q.key.size : Int) ≤ 64 := of_decide_eq_true c41_t
          refine S_yes (j := 4) (dj := 44) (b := true) rfl rfl (congrArg Value.bool c41_t) (T_val (v := (Value.pointer (some ⟨b2_, 2, none⟩))) (by kernel_rfl) ?_)
          refine S_yes (j := 4) (dj := 44) (b := true) rfl rfl (congrArg Value.bool c41_t) (T_val (v := (Value.string q.en)) (x_load1 rfl Try.underlying9 rfl ((Holds.rd H4_ 0 rfl) 2 (Value.string q.en) rfl)) ?_)
          refine S_yes (j := 4) (dj := 44) (b := true) rfl rfl (congrArg Value.bool c41_t) (T_callW (al := [(Value.string q.en)]) rfl rfl cb34 (Calls.into (n := 6) (al := [(Value.string q.en)]) Try.func34 rfl Try.ntmps34 rfl rfl ?_))
          refine C_seq (fun K42_ hK42_ => ?_)
          refine C_reg ?_
          refine S_list (T_val (v := (Value.bool false)) (x_assign rfl) ?_)
          refine wpList_nil ?_
          refine (X_then (hK42_ _ _ ?_))
          clear hK42_
          refine C_seq (fun K43_ hK43_ => ?_)
          refine C_reg ?_
          refine S_list (T_val (v := (Value.string q.en)) (x_move rfl) ?_)
          refine S_list (T_val (v := (Value.int .i64 (q.en.size : Int))) (x_lenT rfl Try.underlying9) ?_)
          refine S_list (T_val (v := (Value.bool (decide ((q.en.size : Int) ≤ 64)))) (x_bin rfl rfl rfl) ?_)
          refine S_list (T_val (v := (Value.bool (decide ((q.en.size : Int) ≤ 64)))) (x_assign rfl) ?_)
          refine wpList_nil ?_
          refine (X_then (hK43_ _ _ ?_))
          clear hK43_
          refine C_ret ?_
          refine R_any (v := (Value.bool (decide ((q.en.size : Int) ≤ 64)))) (run_results1 rfl rfl) ⟨_, rfl, ?_⟩
          refine S_list (T_pickT (v := (Value.bool (decide ((q.en.size : Int) ≤ 64)))) (congrArg Value.bool c41_t) rfl ?_)
          refine S_list (T_val (v := (Value.int .i64 1)) (x_assign rfl) ?_)
          refine S_list (T_val (v := (Value.bool (decide ((q.en.size : Int) ≤ 64)))) (x_assign rfl) ?_)
          refine wpList_nil ?_
          refine (X_then (hK38_ _ _ ?_))
          clear hK38_
          refine C_ret (X_blkR (X_thenR ?_))
          refine R_any (v := (Value.tuple #[(Value.int .i64 1), (Value.bool (decide ((q.en.size : Int) ≤ 64)))])) (run_results2 rfl rfl rfl) ?_
          have H44_ : Holds w3_ (ro R :: F) := (Holds.erase (Holds.bring H4_ 1 rfl) 1)
          exact ⟨_, [], rfl, ⟨_, _, rfl, (fun h => ⟨by omega, by omega, fun h4 => absurd h4 (by omega)⟩), rfl⟩, S6_, H44_⟩
        · have c41_fp : ¬ ((q.key.size : Int) ≤ 64) := of_decide_eq_false c41_f
          refine S_no (j := 4) (dj := 44) (b := false) rfl rfl (congrArg Value.bool c41_f) (by decide) ?_
          refine S_no (j := 4) (dj := 44) (b := false) rfl rfl (congrArg Value.bool c41_f) (by decide) ?_
          refine S_no (j := 4) (dj := 44) (b := false) rfl rfl (congrArg Value.bool c41_f) (by decide) ?_
          refine S_list (T_pickF (v := (Value.bool false)) (congrArg Value.bool c41_f) rfl ?_)
          refine S_list (T_val (v := (Value.int .i64 1)) (x_assign rfl) ?_)
          refine S_list (T_val (v := (Value.bool false)) (x_assign rfl) ?_)
          refine wpList_nil ?_
          refine (X_then (hK38_ _ _ ?_))
          clear hK38_
          refine C_ret (X_blkR (X_thenR ?_))
          refine R_any (v := (Value.tuple #[(Value.int .i64 1), (Value.bool false)])) (run_results2 rfl rfl rfl) ?_
          have H45_ : Holds w3_ (ro R :: F) := (Holds.erase (Holds.bring H4_ 1 rfl) 1)
          exact ⟨_, [], rfl, ⟨_, _, rfl, (fun h => by cases h), rfl⟩, S6_, H45_⟩
      · have c37_fp : ¬ (q.kind = 3) := of_decide_eq_false c37_f
        refine C_seq (fun K46_ hK46_ => ?_)
        refine C_reg ?_
        refine S_list (T_val (v := (Value.bool (decide (q.kind = 4)))) (x_bin rfl rfl rfl) ?_)
        refine S_list (T_val (v := (Value.bool (decide (q.kind = 4)))) (x_assign rfl) ?_)
        refine wpList_nil ?_
        refine (X_then (hK46_ _ _ ?_))
        clear hK46_
        refine C_cond (b := decide (q.kind = 4)) rfl (fun c47_t => ?_) (fun c47_f => ?_)
        · have c47_tp : q.kind = 4 := of_decide_eq_true c47_t
          refine C_seq (fun K48_ hK48_ => ?_)
          refine C_seq (fun K49_ hK49_ => ?_)
          refine C_reg ?_
          refine S_list (T_val (v := (Value.int .i64 deep)) (x_move rfl) ?_)
          refine S_list (T_val (v := (Value.bool (decide (deep = 0)))) (x_bin rfl rfl rfl) ?_)
          refine S_list (T_val (v := (Value.bool (decide (deep = 0)))) (x_move rfl) ?_)
          rcases Bool.eq_false_or_eq_true (decide (deep = 0)) with c50_t | c50_f
          · have c50_tp : deep = 0 := of_decide_eq_true c50_t
            refine S_no (j := 2) (dj := 53) (b := true) rfl rfl (congrArg Value.bool c50_t) (by decide) ?_
            refine S_no (j := 2) (dj := 53) (b := true) rfl rfl (congrArg Value.bool c50_t) (by decide) ?_
            refine S_no (j := 2) (dj := 53) (b := true) rfl rfl (congrArg Value.bool c50_t) (by decide) ?_
            refine S_no (j := 2) (dj := 53) (b := true) rfl rfl (congrArg Value.bool c50_t) (by decide) ?_
            refine S_list (T_pickT (v := (Value.bool true)) (congrArg Value.bool c50_t) rfl ?_)
            refine S_list (T_val (v := (Value.bool true)) (x_move rfl) ?_)
            refine S_no (j := 8) (dj := 59) (b := true) rfl rfl rfl (by decide) ?_
            refine S_no (j := 8) (dj := 59) (b := true) rfl rfl rfl (by decide) ?_
            refine S_no (j := 8) (dj := 59) (b := true) rfl rfl rfl (by decide) ?_
            refine S_no (j := 8) (dj := 59) (b := true) rfl rfl rfl (by decide) ?_
            refine S_list (T_pickT (v := (Value.bool true)) rfl rfl ?_)
            refine S_list (T_val (v := (Value.bool true)) (x_move rfl) ?_)
            refine S_no (j := 14) (dj := 65) (b := true) rfl rfl rfl (by decide) ?_
            refine S_no (j := 14) (dj := 65) (b := true) rfl rfl rfl (by decide) ?_
            refine S_no (j := 14) (dj := 65) (b := true) rfl rfl rfl (by decide) ?_
            refine S_no (j := 14) (dj := 65) (b := true) rfl rfl rfl (by decide) ?_
            refine S_list (T_pickT (v := (Value.bool true)) rfl rfl ?_)
            refine wpList_nil ?_
            refine (X_then (hK49_ _ _ ?_))
            clear hK49_
            refine C_condT rfl ?_
            refine C_seq (fun K51_ hK51_ => ?_)
            refine C_reg ?_
            refine S_list (T_val (v := (Value.int .i64 1)) (x_move rfl) ?_)
            refine S_list (T_val (v := (Value.int .i64 1)) (x_assign rfl) ?_)
            refine S_list (T_val (v := (Value.bool false)) (x_assign rfl) ?_)
            refine wpList_nil ?_
            refine (X_then (hK51_ _ _ ?_))
            clear hK51_
            refine C_ret (X_thenR (X_blkR (X_thenR ?_)))
            refine R_any (v := (Value.tuple #[(Value.int .i64 1), (Value.bool false)])) (run_results2 rfl rfl rfl) ?_
            have H52_ : Holds w3_ (ro R :: F) := (Holds.erase (Holds.bring H4_ 1 rfl) 1)
            exact ⟨_, [], rfl, ⟨_, _, rfl, (fun h => by cases h), rfl⟩, S6_, H52_⟩
          · have c50_fp : ¬ (deep = 0) := of_decide_eq_false c50_f
            refine S_yes (j := 2) (dj := 53) (b := false) rfl rfl (congrArg Value.bool c50_f) (T_val (v := (Value.pointer (some ⟨b2_, 18, none⟩))) (by kernel_rfl) ?_)
            refine S_yes (j := 2) (dj := 53) (b := false) rfl rfl (congrArg Value.bool c50_f) (T_val (v := (Value.slice q.cA q.cN q.cC)) (x_load1 rfl Try.underlying37 rfl ((Holds.rd H4_ 0 rfl) 18 (Value.slice q.cA q.cN q.cC) rfl)) ?_)
            refine S_yes (j := 2) (dj := 53) (b := false) rfl rfl (congrArg Value.bool c50_f) (T_val (v := (Value.int .i64 (cc.length : Int))) (x_lenRS rfl hL.c Try.underlying37) ?_)
            refine S_yes (j := 2) (dj := 53) (b := false) rfl rfl (congrArg Value.bool c50_f) (T_val (v := (Value.bool (decide (8 < (cc.length : Int))))) (x_bin rfl rfl rfl) ?_)
            refine S_list (T_pickF (v := (Value.bool (decide (8 < (cc.length : Int))))) (congrArg Value.bool c50_f) rfl ?_)
            refine S_list (T_val (v := (Value.bool (decide (8 < (cc.length : Int))))) (x_move rfl) ?_)
            rcases Bool.eq_false_or_eq_true (decide (8 < (cc.length : Int))) with c53_t | c53_f
            · have c53_tp : 8 < (cc.length : Int) := of_decide_eq_true c53_t
              refine S_no (j := 8) (dj := 59) (b := true) rfl rfl (congrArg Value.bool c53_t) (by decide) ?_
              refine S_no (j := 8) (dj := 59) (b := true) rfl rfl (congrArg Value.bool c53_t) (by decide) ?_
              refine S_no (j := 8) (dj := 59) (b := true) rfl rfl (congrArg Value.bool c53_t) (by decide) ?_
              refine S_no (j := 8) (dj := 59) (b := true) rfl rfl (congrArg Value.bool c53_t) (by decide) ?_
              refine S_list (T_pickT (v := (Value.bool true)) (congrArg Value.bool c53_t) rfl ?_)
              refine S_list (T_val (v := (Value.bool true)) (x_move rfl) ?_)
              refine S_no (j := 14) (dj := 65) (b := true) rfl rfl rfl (by decide) ?_
              refine S_no (j := 14) (dj := 65) (b := true) rfl rfl rfl (by decide) ?_
              refine S_no (j := 14) (dj := 65) (b := true) rfl rfl rfl (by decide) ?_
              refine S_no (j := 14) (dj := 65) (b := true) rfl rfl rfl (by decide) ?_
              refine S_list (T_pickT (v := (Value.bool true)) rfl rfl ?_)
              refine wpList_nil ?_
              refine (X_then (hK49_ _ _ ?_))
              clear hK49_
              refine C_condT rfl ?_
              refine C_seq (fun K54_ hK54_ => ?_)
              refine C_reg ?_
              refine S_list (T_val (v := (Value.int .i64 1)) (x_move rfl) ?_)
              refine S_list (T_val (v := (Value.int .i64 1)) (x_assign rfl) ?_)
              refine S_list (T_val (v := (Value.bool false)) (x_assign rfl) ?_)
              refine wpList_nil ?_
              refine (X_then (hK54_ _ _ ?_))
              clear hK54_
              refine C_ret (X_thenR (X_blkR (X_thenR ?_)))
              refine R_any (v := (Value.tuple #[(Value.int .i64 1), (Value.bool false)])) (run_results2 rfl rfl rfl) ?_
              have H55_ : Holds w3_ (ro R :: F) := (Holds.erase (Holds.bring H4_ 1 rfl) 1)
              exact ⟨_, [], rfl, ⟨_, _, rfl, (fun h => by cases h), rfl⟩, S6_, H55_⟩
            · have c53_fp : ¬ (8 < (cc.length : Int)) := of_decide_eq_false c53_f
              refine S_yes (j := 8) (dj := 59) (b := false) rfl rfl (congrArg Value.bool c53_f) (T_val (v := (Value.pointer (some ⟨b2_, 19, none⟩))) (by kernel_rfl) ?_)
              refine S_yes (j := 8) (dj := 59) (b := false) rfl rfl (congrArg Value.bool c53_f) (T_val (v := (Value.slice q.tA q.tN q.tC)) (x_load1 rfl Try.underlying38 rfl ((Holds.rd H4_ 0 rfl) 19 (Value.slice q.tA q.tN q.tC) rfl)) ?_)
              refine S_yes (j := 8) (dj := 59) (b := false) rfl rfl (congrArg Value.bool c53_f) (T_val (v := (Value.int .i64 (tt.length : Int))) (x_lenRS rfl hL.t Try.underlying38) ?_)
              refine S_yes (j := 8) (dj := 59) (b := false) rfl rfl (congrArg Value.bool c53_f) (T_val (v := (Value.bool (decide (16 < (tt.length : Int))))) (x_bin rfl rfl rfl) ?_)
              refine S_list (T_pickF (v := (Value.bool (decide (16 < (tt.length : Int))))) (congrArg Value.bool c53_f) rfl ?_)
              refine S_list (T_val (v := (Value.bool (decide (16 < (tt.length : Int))))) (x_move rfl) ?_)
              rcases Bool.eq_false_or_eq_true (decide (16 < (tt.length : Int))) with c56_t | c56_f
              · have c56_tp : 16 < (tt.length : Int) := of_decide_eq_true c56_t
                refine S_no (j := 14) (dj := 65) (b := true) rfl rfl (congrArg Value.bool c56_t) (by decide) ?_
                refine S_no (j := 14) (dj := 65) (b := true) rfl rfl (congrArg Value.bool c56_t) (by decide) ?_
                refine S_no (j := 14) (dj := 65) (b := true) rfl rfl (congrArg Value.bool c56_t) (by decide) ?_
                refine S_no (j := 14) (dj := 65) (b := true) rfl rfl (congrArg Value.bool c56_t) (by decide) ?_
                refine S_list (T_pickT (v := (Value.bool true)) (congrArg Value.bool c56_t) rfl ?_)
                refine wpList_nil ?_
                refine (X_then (hK49_ _ _ ?_))
                clear hK49_
                refine C_condT rfl ?_
                refine C_seq (fun K57_ hK57_ => ?_)
                refine C_reg ?_
                refine S_list (T_val (v := (Value.int .i64 1)) (x_move rfl) ?_)
                refine S_list (T_val (v := (Value.int .i64 1)) (x_assign rfl) ?_)
                refine S_list (T_val (v := (Value.bool false)) (x_assign rfl) ?_)
                refine wpList_nil ?_
                refine (X_then (hK57_ _ _ ?_))
                clear hK57_
                refine C_ret (X_thenR (X_blkR (X_thenR ?_)))
                refine R_any (v := (Value.tuple #[(Value.int .i64 1), (Value.bool false)])) (run_results2 rfl rfl rfl) ?_
                have H58_ : Holds w3_ (ro R :: F) := (Holds.erase (Holds.bring H4_ 1 rfl) 1)
                exact ⟨_, [], rfl, ⟨_, _, rfl, (fun h => by cases h), rfl⟩, S6_, H58_⟩
              · have c56_fp : ¬ (16 < (tt.length : Int)) := of_decide_eq_false c56_f
                refine S_yes (j := 14) (dj := 65) (b := false) rfl rfl (congrArg Value.bool c56_f) (T_val (v := (Value.pointer (some ⟨b2_, 20, none⟩))) (by kernel_rfl) ?_)
                refine S_yes (j := 14) (dj := 65) (b := false) rfl rfl (congrArg Value.bool c56_f) (T_val (v := (Value.slice q.eA q.eN q.eC)) (x_load1 rfl Try.underlying38 rfl ((Holds.rd H4_ 0 rfl) 20 (Value.slice q.eA q.eN q.eC) rfl)) ?_)
                refine S_yes (j := 14) (dj := 65) (b := false) rfl rfl (congrArg Value.bool c56_f) (T_val (v := (Value.int .i64 (ee.length : Int))) (x_lenRS rfl hL.e Try.underlying38) ?_)
                refine S_yes (j := 14) (dj := 65) (b := false) rfl rfl (congrArg Value.bool c56_f) (T_val (v := (Value.bool (decide (16 < (ee.length : Int))))) (x_bin rfl rfl rfl) ?_)
                refine S_list (T_pickF (v := (Value.bool (decide (16 < (ee.length : Int))))) (congrArg Value.bool c56_f) rfl ?_)
                refine wpList_nil ?_
                refine (X_then (hK49_ _ _ ?_))
                clear hK49_
                refine C_cond (b := decide (16 < (ee.length : Int))) rfl (fun c59_t => ?_) (fun c59_f => ?_)
                · have c59_tp : 16 < (ee.length : Int) := of_decide_eq_true c59_t
                  refine C_seq (fun K60_ hK60_ => ?_)
                  refine C_reg ?_
                  refine S_list (T_val (v := (Value.int .i64 1)) (x_move rfl) ?_)
                  refine S_list (T_val (v := (Value.int .i64 1)) (x_assign rfl) ?_)
                  refine S_list (T_val (v := (Value.bool false)) (x_assign rfl) ?_)
                  refine wpList_nil ?_
                  refine (X_then (hK60_ _ _ ?_))
                  clear hK60_
                  refine C_ret (X_thenR (X_blkR (X_thenR ?_)))
                  refine R_any (v := (Value.tuple #[(Value.int .i64 1), (Value.bool false)])) (run_results2 rfl rfl rfl) ?_
                  have H61_ : Holds w3_ (ro R :: F) := (Holds.erase (Holds.bring H4_ 1 rfl) 1)
                  exact ⟨_, [], rfl, ⟨_, _, rfl, (fun h => by cases h), rfl⟩, S6_, H61_⟩
                · have c59_fp : ¬ (16 < (ee.length : Int)) := of_decide_eq_false c59_f
                  refine C_skip (X_then (hK48_ _ _ ?_))
                  clear hK48_
                  refine C_seq (fun K62_ hK62_ => ?_)
                  refine C_seq (fun K63_ hK63_ => ?_)
                  refine C_reg ?_
                  refine S_list (T_val (v := (Value.pointer (some ⟨b2_, 18, none⟩))) (by kernel_rfl) ?_)
                  refine S_list (T_val (v := (Value.slice q.cA q.cN q.cC)) (x_load1 rfl Try.underlying37 rfl ((Holds.rd H4_ 0 rfl) 18 (Value.slice q.cA q.cN q.cC) rfl)) ?_)
                  refine S_list (T_val (v := (Value.int .i64 (cc.length : Int))) (x_lenRS rfl hL.c Try.underlying37) ?_)
                  refine S_list (T_val (v := (Value.int .i64 0)) (x_move rfl) ?_)
                  refine wpList_nil ?_
                  refine (X_then (hK63_ _ _ ?_))
                  clear hK63_
                  refine C_block ?_
                  refine C_loop (γ := Nat) (fun k a w1 => ∃ h : Env, a = mkA 117 (upd (upd (upd (upd (upd (upd h 75 (Value.int .i64 (k : Int))) 1 (Value.int .i64 deep)) 2 (Value.pointer (some ⟨b2_, 0, none⟩))) 6 (Value.int .i64 1)) 73 (Value.slice q.cA q.cN q.cC)) 74 (Value.int .i64 (cc.length : Int))) [] ∧ Holds w1 (cl b2_ 40 [(Value.int .i64 q.kind), (Value.string q.key), (Value.string q.en), (Value.string q.val), (Value.int .i64 q.lease), (Value.int .i64 q.rev), (Value.int .i64 q.limit), (Value.int .i64 q.order), (Value.int .i64 q.target), (Value.int .i64 q.minMod), (Value.int .i64 q.maxMod), (Value.int .i64 q.minCreate), (Value.int .i64 q.maxCreate), (Value.bool q.keysOnly), (Value.bool q.countOnly), (Value.bool q.prev), (Value.bool q.ignValue), (Value.bool q.ignLease), (Value.slice q.cA q.cN q.cC), (Value.slice q.tA q.tN q.tC), (Value.slice q.eA q.eN q.eC)] :: ro R :: F) ∧ Same w w1 ∧ (k ≤ cc.length)) (fun k => cc.length - k) (0) ⟨_, congrArg (fun e => mkA 117 e []) (ch (ch (ch (ch (ch (ch rfl (by first | rfl | exact congrArg (Value.int _) (by omega))) (by first | rfl | exact congrArg (Value.int _) (by omega))) (by first | rfl | exact congrArg (Value.int _) (by omega))) (by first | rfl | exact congrArg (Value.int _) (by omega))) (by first | rfl | exact congrArg (Value.int _) (by omega))) (by first | rfl | exact congrArg (Value.int _) (by omega))), H4_, S6_, by omega⟩ ?_
                  rintro k _ w64_ ⟨h, rfl, H65_, S66_, hk⟩
                  refine C_seq (fun K67_ hK67_ => ?_)
                  refine C_reg ?_
                  refine S_list (T_val (v := (Value.bool (decide ((k : Int) < (cc.length : Int))))) (x_bin rfl rfl rfl) ?_)
                  refine wpList_nil ?_
                  refine (X_then (hK67_ _ _ ?_))
                  clear hK67_
                  refine C_seq (fun K68_ hK68_ => ?_)
                  refine C_cond (b := decide ((k : Int) < (cc.length : Int))) rfl (fun c69_t => ?_) (fun c69_f => ?_)
                  · have c69_tp : (k : Int) < (cc.length : Int) := of_decide_eq_true c69_t
                    refine C_skip (X_then (hK68_ _ _ ?_))
                    clear hK68_
                    refine C_seq (fun K70_ hK70_ => ?_)
                    refine C_block ?_
                    refine C_seq (fun K71_ hK71_ => ?_)
                    refine C_reg ?_
                    obtain ⟨x72_, hx73_, hm74_⟩ := elem_at cc k (by omega)
                    refine S_list (T_val (v := (Value.pointer (some ⟨(sb (Value.slice q.cA q.cN q.cC)), so (Value.slice q.cA q.cN q.cC) + (k * 7 + 0), none⟩))) (x_idxRS (v := (Value.slice q.cA q.cN q.cC)) rfl hL.c rfl Try.underlying37 z31 (by omega) (by omega) (by omega : _ = k) rfl) ?_)
                    refine S_list (T_val (v := (Value.agg #[(Value.int .i64 x72_.T), (Value.int .i64 x72_.r), (Value.string x72_.key), (Value.string x72_.en), (Value.int .i64 x72_.n), (Value.string x72_.val), (Value.bool x72_.bare)])) (x_loadN (vs := [(Value.int .i64 x72_.T), (Value.int .i64 x72_.r), (Value.string x72_.key), (Value.string x72_.en), (Value.int .i64 x72_.n), (Value.string x72_.val), (Value.bool x72_.bare)]) rfl Try.underlying31 rfl z31 rfl (RC.cells (RS.rc hL.c) (Holds.ro_at H65_ 1 rfl) (k * 7 + 0) (fm_cells CmpS.len hx73_ (i := 0) rfl))) ?_)
                    refine S_list (T_alloc z31 H65_ ?_)
                    intro b75_ w76_ S78_ H77_
                    replace H77_ : Holds w76_ (cl b75_ 31 [(Value.int .i64 0), (Value.int .i64 0), (Value.string ByteArray.empty), (Value.string ByteArray.empty), (Value.int .i64 0), (Value.string ByteArray.empty), (Value.bool false)] :: cl b2_ 40 [(Value.int .i64 q.kind), (Value.string q.key), (Value.string q.en), (Value.string q.val), (Value.int .i64 q.lease), (Value.int .i64 q.rev), (Value.int .i64 q.limit), (Value.int .i64 q.order), (Value.int .i64 q.target), (Value.int .i64 q.minMod), (Value.int .i64 q.maxMod), (Value.int .i64 q.minCreate), (Value.int .i64 q.maxCreate), (Value.bool q.keysOnly), (Value.bool q.countOnly), (Value.bool q.prev), (Value.bool q.ignValue), (Value.bool q.ignLease), (Value.slice q.cA q.cN q.cC), (Value.slice q.tA q.tN q.tC), (Value.slice q.eA q.eN q.eC)] :: ro R :: F) := H77_
                    have S79_ := Same.trans S66_ S78_
                    refine S_list0 (T_storeN (vs := [(Value.int .i64 x72_.T), (Value.int .i64 x72_.r), (Value.string x72_.key), (Value.string x72_.en), (Value.int .i64 x72_.n), (Value.string x72_.val), (Value.bool x72_.bare)]) rfl rfl z31 rfl (by simp [Value.oneCell']) H77_ 0 rfl (Nat.le_of_ble_eq_true (by rfl)) ?_)
                    intro w80_ S82_ H81_
                    replace H81_ : Holds w80_ (cl b75_ 31 [(Value.int .i64 x72_.T), (Value.int .i64 x72_.r), (Value.string x72_.key), (Value.string x72_.en), (Value.int .i64 x72_.n), (Value.string x72_.val), (Value.bool x72_.bare)] :: cl b2_ 40 [(Value.int .i64 q.kind), (Value.string q.key), (Value.string q.en), (Value.string q.val), (Value.int .i64 q.lease), (Value.int .i64 q.rev), (Value.int .i64 q.limit), (Value.int .i64 q.order), (Value.int .i64 q.target), (Value.int .i64 q.minMod), (Value.int .i64 q.maxMod), (Value.int .i64 q.minCreate), (Value.int .i64 q.maxCreate), (Value.bool q.keysOnly), (Value.bool q.countOnly), (Value.bool q.prev), (Value.bool q.ignValue), (Value.bool q.ignLease), (Value.slice q.cA q.cN q.cC), (Value.slice q.tA q.tN q.tC), (Value.slice q.eA q.eN q.eC)] :: ro R :: F) := H81_
                    have S83_ := Same.trans S79_ S82_
                    refine wpList_nil ?_
                    refine (X_then (hK71_ _ _ ?_))
                    clear hK71_
                    refine C_seq (fun K84_ hK84_ => ?_)
                    refine C_reg ?_
                    refine S_list (T_val (v := (Value.agg #[(Value.int .i64 x72_.T), (Value.int .i64 x72_.r), (Value.string x72_.key), (Value.string x72_.en), (Value.int .i64 x72_.n), (Value.string x72_.val), (Value.bool x72_.bare)])) (x_loadN (vs := [(Value.int .i64 x72_.T), (Value.int .i64 x72_.r), (Value.string x72_.key), (Value.string x72_.en), (Value.int .i64 x72_.n), (Value.string x72_.val), (Value.bool x72_.bare)]) rfl Try.underlying31 rfl z31 rfl (Rd.cells (Holds.rd H81_ 0 rfl) 0 rfl)) ?_)
                    have H86_ : Holds w80_ (ro R :: cl b75_ 31 [(Value.int .i64 x72_.T), (Value.int .i64 x72_.r), (Value.string x72_.key), (Value.string x72_.en), (Value.int .i64 x72_.n), (Value.string x72_.val), (Value.bool x72_.bare)] :: cl b2_ 40 [(Value.int .i64 q.kind), (Value.string q.key), (Value.string q.en), (Value.string q.val), (Value.int .i64 q.lease), (Value.int .i64 q.rev), (Value.int .i64 q.limit), (Value.int .i64 q.order), (Value.int .i64 q.target), (Value.int .i64 q.minMod), (Value.int .i64 q.maxMod), (Value.int .i64 q.minCreate), (Value.int .i64 q.maxCreate), (Value.bool q.keysOnly), (Value.bool q.countOnly), (Value.bool q.prev), (Value.bool q.ignValue), (Value.bool q.ignLease), (Value.slice q.cA q.cN q.cC), (Value.slice q.tA q.tN q.tC), (Value.slice q.eA q.eN q.eC)] :: F) := (Holds.bring H81_ 2 rfl)
                    refine S_list (T_call (al := [(Value.agg #[(Value.int .i64 x72_.T), (Value.int .i64 x72_.r), (Value.string x72_.key), (Value.string x72_.en), (Value.int .i64 x72_.n), (Value.string x72_.val), (Value.bool x72_.bare)])]) (pre := []) (F := cl b75_ 31 [(Value.int .i64 x72_.T), (Value.int .i64 x72_.r), (Value.string x72_.key), (Value.string x72_.en), (Value.int .i64 x72_.n), (Value.string x72_.val), (Value.bool x72_.bare)] :: cl b2_ 40 [(Value.int .i64 q.kind), (Value.string q.key), (Value.string q.en), (Value.string q.val), (Value.int .i64 q.lease), (Value.int .i64 q.rev), (Value.int .i64 q.limit), (Value.int .i64 q.order), (Value.int .i64 q.target), (Value.int .i64 q.minMod), (Value.int .i64 q.maxMod), (Value.int .i64 q.minCreate), (Value.int .i64 q.maxCreate), (Value.bool q.keysOnly), (Value.bool q.countOnly), (Value.bool q.prev), (Value.bool q.ignValue), (Value.bool q.ignLease), (Value.slice q.cA q.cN q.cC), (Value.slice q.tA q.tN q.tC), (Value.slice q.eA q.eN q.eC)] :: F) rfl rfl cb14 (kTxnCmp R x72_) H86_ ?_)
                    rintro v90_ p91_ w87_ ⟨⟨q85_, rfl⟩, rfl⟩ S89_ H88_
                    replace H88_ : Holds w87_ (ro R :: cl b75_ 31 [(Value.int .i64 x72_.T), (Value.int .i64 x72_.r), (Value.string x72_.key), (Value.string x72_.en), (Value.int .i64 x72_.n), (Value.string x72_.val), (Value.bool x72_.bare)] :: cl b2_ 40 [(Value.int .i64 q.kind), (Value.string q.key), (Value.string q.en), (Value.string q.val), (Value.int .i64 q.lease), (Value.int .i64 q.rev), (Value.int .i64 q.limit), (Value.int .i64 q.order), (Value.int .i64 q.target), (Value.int .i64 q.minMod), (Value.int .i64 q.maxMod), (Value.int .i64 q.minCreate), (Value.int .i64 q.maxCreate), (Value.bool q.keysOnly), (Value.bool q.countOnly), (Value.bool q.prev), (Value.bool q.ignValue), (Value.bool q.ignLease), (Value.slice q.cA q.cN q.cC), (Value.slice q.tA q.tN q.tC), (Value.slice q.eA q.eN q.eC)] :: F) := H88_
                    have S92_ := Same.trans S83_ S89_
                    refine S_list (T_val (v := (Value.bool (!q85_))) (x_not rfl) ?_)
                    refine wpList_nil ?_
                    refine (X_then (hK84_ _ _ ?_))
                    clear hK84_
                    refine C_cond (b := !q85_) rfl (fun c93_t => ?_) (fun c93_f => ?_)
                    · skip
                      refine C_seq (fun K94_ hK94_ => ?_)
                      refine C_reg ?_
                      refine S_list (T_val (v := (Value.int .i64 1)) (x_move rfl) ?_)
                      refine S_list (T_val (v := (Value.int .i64 1)) (x_assign rfl) ?_)
                      refine S_list (T_val (v := (Value.bool false)) (x_assign rfl) ?_)
                      refine wpList_nil ?_
                      refine (X_then (hK94_ _ _ ?_))
                      clear hK94_
                      refine C_ret (X_blkR (X_thenR (X_thenR (X_blkR (X_thenR (X_blkR (X_thenR ?_)))))))
                      refine R_any (v := (Value.tuple #[(Value.int .i64 1), (Value.bool false)])) (run_results2 rfl rfl rfl) ?_
                      have H95_ : Holds w87_ (ro R :: F) := (Holds.erase (Holds.erase (Holds.bring H88_ 0 rfl) 1) 1)
                      exact ⟨_, [], rfl, ⟨_, _, rfl, (fun h => by cases h), rfl⟩, S92_, H95_⟩
                    · skip
                      refine C_skip (X_blkN (X_then (hK70_ _ _ ?_)))
                      clear hK70_
                      refine C_reg ?_
                      refine S_list (T_val (v := (Value.int .i64 ((k : Int) + 1))) (x_bin rfl rfl (ib_add (IntWalk.i64_in _ (by omega)))) ?_)
                      refine S_list (T_val (v := (Value.int .i64 ((k : Int) + 1))) (x_move rfl) ?_)
                      refine wpList_nil ?_
                      refine (X_then ?_)
                      have H96_ : Holds w87_ (cl b2_ 40 [(Value.int .i64 q.kind), (Value.string q.key), (Value.string q.en), (Value.string q.val), (Value.int .i64 q.lease), (Value.int .i64 q.rev), (Value.int .i64 q.limit), (Value.int .i64 q.order), (Value.int .i64 q.target), (Value.int .i64 q.minMod), (Value.int .i64 q.maxMod), (Value.int .i64 q.minCreate), (Value.int .i64 q.maxCreate), (Value.bool q.keysOnly), (Value.bool q.countOnly), (Value.bool q.prev), (Value.bool q.ignValue), (Value.bool q.ignLease), (Value.slice q.cA q.cN q.cC), (Value.slice q.tA q.tN q.tC), (Value.slice q.eA q.eN q.eC)] :: ro R :: F) := (Holds.erase (Holds.bring (Holds.bring H88_ 0 rfl) 2 rfl) 2)
                      exact ⟨k + 1, ⟨_, congrArg (fun e => mkA 117 e []) (ch (ch (ch (ch (ch (ch rfl (by first | rfl | exact congrArg (Value.int _) (by omega))) (by first | rfl | exact congrArg (Value.int _) (by omega))) (by first | rfl | exact congrArg (Value.int _) (by omega))) (by first | rfl | exact congrArg (Value.int _) (by omega))) (by first | rfl | exact congrArg (Value.int _) (by omega))) (by first | rfl | exact congrArg (Value.int _) (by omega))), H96_, S92_, by omega⟩, by first | omega | (simp; omega)⟩
                  · have c69_fp : ¬ ((k : Int) < (cc.length : Int)) := of_decide_eq_false c69_f
                    refine C_exit (X_thenX (X_thenX (X_blkHit ?_)))
                    refine (X_then (hK62_ _ _ ?_))
                    clear hK62_
                    refine C_seq (fun K97_ hK97_ => ?_)
                    refine C_seq (fun K98_ hK98_ => ?_)
                    refine C_reg ?_
                    refine S_list (T_val (v := (Value.pointer (some ⟨b2_, 19, none⟩))) (by kernel_rfl) ?_)
                    refine S_list (T_val (v := (Value.slice q.tA q.tN q.tC)) (x_load1 rfl Try.underlying38 rfl ((Holds.rd H65_ 0 rfl) 19 (Value.slice q.tA q.tN q.tC) rfl)) ?_)
                    refine S_list (T_val (v := (Value.pointer (some ⟨b2_, 20, none⟩))) (by kernel_rfl) ?_)
                    refine S_list (T_val (v := (Value.slice q.eA q.eN q.eC)) (x_load1 rfl Try.underlying38 rfl ((Holds.rd H65_ 0 rfl) 20 (Value.slice q.eA q.eN q.eC) rfl)) ?_)
                    refine S_list (T_new (obj := .cells #[(Value.slice q.tA q.tN q.tC), (Value.slice q.eA q.eN q.eC)] 38) (f := fun b => .slice (some ⟨b, 0, none⟩) 2 2) (A := fun b => cl b 38 [(Value.slice q.tA q.tN q.tC), (Value.slice q.eA q.eN q.eC)]) (by kernel_rfl) (fun l h => h.alloc _ _) H65_ ?_)
                    intro b99_ w100_ S102_ H101_
                    replace H101_ : Holds w100_ (cl b99_ 38 [(Value.slice q.tA q.tN q.tC), (Value.slice q.eA q.eN q.eC)] :: cl b2_ 40 [(Value.int .i64 q.kind), (Value.string q.key), (Value.string q.en), (Value.string q.val), (Value.int .i64 q.lease), (Value.int .i64 q.rev), (Value.int .i64 q.limit), (Value.int .i64 q.order), (Value.int .i64 q.target), (Value.int .i64 q.minMod), (Value.int .i64 q.maxMod), (Value.int .i64 q.minCreate), (Value.int .i64 q.maxCreate), (Value.bool q.keysOnly), (Value.bool q.countOnly), (Value.bool q.prev), (Value.bool q.ignValue), (Value.bool q.ignLease), (Value.slice q.cA q.cN q.cC), (Value.slice q.tA q.tN q.tC), (Value.slice q.eA q.eN q.eC)] :: ro R :: F) := H101_
                    have S103_ := Same.trans S66_ S102_
                    refine S_list (T_val (v := (Value.int .i64 2)) (x_lenS rfl Try.underlying76) ?_)
                    refine S_list (T_val (v := (Value.int .i64 0)) (x_move rfl) ?_)
                    refine wpList_nil ?_
                    refine (X_then (hK98_ _ _ ?_))
                    clear hK98_
                    refine C_block ?_
                    refine C_loopN 3 ?_
                    refine C_rounds (fun K104_ hK104_ => ?_)
                    refine C_seq (fun K105_ hK105_ => ?_)
                    refine C_reg ?_
                    refine S_list (T_val (v := (Value.bool true)) (x_bin rfl rfl rfl) ?_)
                    refine wpList_nil ?_
                    refine (X_then (hK105_ _ _ ?_))
                    clear hK105_
                    refine C_seq (fun K106_ hK106_ => ?_)
                    refine C_condT rfl ?_
                    refine C_skip (X_then (hK106_ _ _ ?_))
                    clear hK106_
                    refine C_seq (fun K107_ hK107_ => ?_)
                    refine C_block ?_
                    refine C_seq (fun K108_ hK108_ => ?_)
                    refine C_reg ?_
                    refine S_list (T_val (v := (Value.pointer (some ⟨b99_, 0, none⟩))) (x_indexAddr rfl rfl Try.underlying76 z38 (by omega) (by omega) (by omega : _ = 0) (by first | rfl | simp | (congr 1; omega))) ?_)
                    refine S_list (T_val (v := (Value.slice q.tA q.tN q.tC)) (x_load1 rfl Try.underlying38 rfl ((Holds.rd H101_ 0 rfl) 0 (Value.slice q.tA q.tN q.tC) rfl)) ?_)
                    refine S_list (T_val (v := (Value.slice q.tA q.tN q.tC)) (x_assign rfl) ?_)
                    refine wpList_nil ?_
                    refine (X_then (hK108_ _ _ ?_))
                    clear hK108_
                    refine C_seq (fun K109_ hK109_ => ?_)
                    refine C_reg ?_
                    refine S_list (T_val (v := (Value.slice q.tA q.tN q.tC)) (x_move rfl) ?_)
                    refine S_list (T_val (v := (Value.int .i64 (tt.length : Int))) (x_lenRS rfl hL.t Try.underlying38) ?_)
                    refine S_list (T_val (v := (Value.int .i64 0)) (x_move rfl) ?_)
                    refine wpList_nil ?_
                    refine (X_then (hK109_ _ _ ?_))
                    clear hK109_
                    refine C_block ?_
                    refine C_loop (γ := Nat × Int) (fun x a w1 => match x with | ⟨k, n6⟩ => ∃ h : Env, a = mkA 117 (upd (upd (upd (upd (upd (upd (upd (upd (upd h 96 (Value.int .i64 (k : Int))) 6 (Value.int .i64 n6)) 1 (Value.int .i64 deep)) 2 (Value.pointer (some ⟨b2_, 0, none⟩))) 88 (Value.slice (some ⟨b99_, 0, none⟩) 2 2)) 89 (Value.int .i64 2)) 90 (Value.int .i64 0)) 94 (Value.slice q.tA q.tN q.tC)) 95 (Value.int .i64 (tt.length : Int))) [] ∧ Holds w1 (cl b99_ 38 [(Value.slice q.tA q.tN q.tC), (Value.slice q.eA q.eN q.eC)] :: cl b2_ 40 [(Value.int .i64 q.kind), (Value.string q.key), (Value.string q.en), (Value.string q.val), (Value.int .i64 q.lease), (Value.int .i64 q.rev), (Value.int .i64 q.limit), (Value.int .i64 q.order), (Value.int .i64 q.target), (Value.int .i64 q.minMod), (Value.int .i64 q.maxMod), (Value.int .i64 q.minCreate), (Value.int .i64 q.maxCreate), (Value.bool q.keysOnly), (Value.bool q.countOnly), (Value.bool q.prev), (Value.bool q.ignValue), (Value.bool q.ignLease), (Value.slice q.cA q.cN q.cC), (Value.slice q.tA q.tN q.tC), (Value.slice q.eA q.eN q.eC)] :: ro R :: F) ∧ Same w w1 ∧ (k ≤ tt.length) ∧ (∀ (i : Nat) (y : ReqS), i < k → tt[i]? = some y → ReqG R y)) (fun x => match x with | ⟨k, n6⟩ => tt.length - k) (⟨0, 1⟩) ⟨_, congrArg (fun e => mkA 117 e []) (ch (ch (ch (ch (ch (ch (ch (ch (ch rfl (by first | rfl | exact congrArg (Value.int _) (by omega))) (by first | rfl | exact congrArg (Value.int _) (by omega))) (by first | rfl | exact congrArg (Value.int _) (by omega))) (by first | rfl | exact congrArg (Value.int _) (by omega))) (by first | rfl | exact congrArg (Value.int _) (by omega))) (by first | rfl | exact congrArg (Value.int _) (by omega))) (by first | rfl | exact congrArg (Value.int _) (by omega))) (by first | rfl | exact congrArg (Value.int _) (by omega))) (by first | rfl | exact congrArg (Value.int _) (by omega))), H101_, S103_, by omega, fun i y hi => by omega⟩ ?_
                    rintro ⟨k, n6⟩ _ w110_ ⟨h, rfl, H111_, S112_, hk, hal⟩
                    refine C_seq (fun K113_ hK113_ => ?_)
                    refine C_reg ?_
                    refine S_list (T_val (v := (Value.bool (decide ((k : Int) < (tt.length : Int))))) (x_bin rfl rfl rfl) ?_)
                    refine wpList_nil ?_
                    refine (X_then (hK113_ _ _ ?_))
                    clear hK113_
                    refine C_seq (fun K114_ hK114_ => ?_)
                    refine C_cond (b := decide ((k : Int) < (tt.length : Int))) rfl (fun c115_t => ?_) (fun c115_f => ?_)
                    · have c115_tp : (k : Int) < (tt.length : Int) := of_decide_eq_true c115_t
                      refine C_skip (X_then (hK114_ _ _ ?_))
                      clear hK114_
                      refine C_seq (fun K116_ hK116_ => ?_)
                      refine C_block ?_
                      refine C_seq (fun K117_ hK117_ => ?_)
                      refine C_reg ?_
                      obtain ⟨x118_, hx119_, hm120_⟩ := elem_at tt k (by omega)
                      refine S_list (T_val (v := (Value.pointer (some ⟨(sb (Value.slice q.tA q.tN q.tC)), so (Value.slice q.tA q.tN q.tC) + (k * 21 + 0), none⟩))) (x_idxRS (v := (Value.slice q.tA q.tN q.tC)) rfl hL.t rfl Try.underlying38 z40 (by omega) (by omega) (by omega : _ = k) rfl) ?_)
                      refine S_list (T_val (v := (Value.agg #[(Value.int .i64 x118_.kind), (Value.string x118_.key), (Value.string x118_.en), (Value.string x118_.val), (Value.int .i64 x118_.lease), (Value.int .i64 x118_.rev), (Value.int .i64 x118_.limit), (Value.int .i64 x118_.order), (Value.int .i64 x118_.target), (Value.int .i64 x118_.minMod), (Value.int .i64 x118_.maxMod), (Value.int .i64 x118_.minCreate), (Value.int .i64 x118_.maxCreate), (Value.bool x118_.keysOnly), (Value.bool x118_.countOnly), (Value.bool x118_.prev), (Value.bool x118_.ignValue), (Value.bool x118_.ignLease), (Value.slice x118_.cA x118_.cN x118_.cC), (Value.slice x118_.tA x118_.tN x118_.tC), (Value.slice x118_.eA x118_.eN x118_.eC)])) (x_loadN (vs := [(Value.int .i64 x118_.kind), (Value.string x118_.key), (Value.string x118_.en), (Value.string x118_.val), (Value.int .i64 x118_.lease), (Value.int .i64 x118_.rev), (Value.int .i64 x118_.limit), (Value.int .i64 x118_.order), (Value.int .i64 x118_.target), (Value.int .i64 x118_.minMod), (Value.int .i64 x118_.maxMod), (Value.int .i64 x118_.minCreate), (Value.int .i64 x118_.maxCreate), (Value.bool x118_.keysOnly), (Value.bool x118_.countOnly), (Value.bool x118_.prev), (Value.bool x118_.ignValue), (Value.bool x118_.ignLease), (Value.slice x118_.cA x118_.cN x118_.cC), (Value.slice x118_.tA x118_.tN x118_.tC), (Value.slice x118_.eA x118_.eN x118_.eC)]) rfl Try.underlying40 rfl z40 rfl (RC.cells (RS.rc hL.t) (Holds.ro_at H111_ 2 rfl) (k * 21 + 0) (fm_cells ReqS.len hx119_ (i := 0) rfl))) ?_)
                      refine S_list (T_alloc z40 H111_ ?_)
                      intro b121_ w122_ S124_ H123_
                      replace H123_ : Holds w122_ (cl b121_ 40 [(Value.int .i64 0), (Value.string ByteArray.empty), (Value.string ByteArray.empty), (Value.string ByteArray.empty), (Value.int .i64 0), (Value.int .i64 0), (Value.int .i64 0), (Value.int .i64 0), (Value.int .i64 0), (Value.int .i64 0), (Value.int .i64 0), (Value.int .i64 0), (Value.int .i64 0), (Value.bool false), (Value.bool false), (Value.bool false), (Value.bool false), (Value.bool false), (Value.slice none 0 0), (Value.slice none 0 0), (Value.slice none 0 0)] :: cl b99_ 38 [(Value.slice q.tA q.tN q.tC), (Value.slice q.eA q.eN q.eC)] :: cl b2_ 40 [(Value.int .i64 q.kind), (Value.string q.key), (Value.string q.en), (Value.string q.val), (Value.int .i64 q.lease), (Value.int .i64 q.rev), (Value.int .i64 q.limit), (Value.int .i64 q.order), (Value.int .i64 q.target), (Value.int .i64 q.minMod), (Value.int .i64 q.maxMod), (Value.int .i64 q.minCreate), (Value.int .i64 q.maxCreate), (Value.bool q.keysOnly), (Value.bool q.countOnly), (Value.bool q.prev), (Value.bool q.ignValue), (Value.bool q.ignLease), (Value.slice q.cA q.cN q.cC), (Value.slice q.tA q.tN q.tC), (Value.slice q.eA q.eN q.eC)] :: ro R :: F) := H123_
                      have S125_ := Same.trans S112_ S124_
                      refine S_list0 (T_storeN (vs := [(Value.int .i64 x118_.kind), (Value.string x118_.key), (Value.string x118_.en), (Value.string x118_.val), (Value.int .i64 x118_.lease), (Value.int .i64 x118_.rev), (Value.int .i64 x118_.limit), (Value.int .i64 x118_.order), (Value.int .i64 x118_.target), (Value.int .i64 x118_.minMod), (Value.int .i64 x118_.maxMod), (Value.int .i64 x118_.minCreate), (Value.int .i64 x118_.maxCreate), (Value.bool x118_.keysOnly), (Value.bool x118_.countOnly), (Value.bool x118_.prev), (Value.bool x118_.ignValue), (Value.bool x118_.ignLease), (Value.slice x118_.cA x118_.cN x118_.cC), (Value.slice x118_.tA x118_.tN x118_.tC), (Value.slice x118_.eA x118_.eN x118_.eC)]) rfl rfl z40 rfl (by simp [Value.oneCell']) H123_ 0 rfl (Nat.le_of_ble_eq_true (by rfl)) ?_)
                      intro w126_ S128_ H127_
                      replace H127_ : Holds w126_ (cl b121_ 40 [(Value.int .i64 x118_.kind), (Value.string x118_.key), (Value.string x118_.en), (Value.string x118_.val), (Value.int .i64 x118_.lease), (Value.int .i64 x118_.rev), (Value.int .i64 x118_.limit), (Value.int .i64 x118_.order), (Value.int .i64 x118_.target), (Value.int .i64 x118_.minMod), (Value.int .i64 x118_.maxMod), (Value.int .i64 x118_.minCreate), (Value.int .i64 x118_.maxCreate), (Value.bool x118_.keysOnly), (Value.bool x118_.countOnly), (Value.bool x118_.prev), (Value.bool x118_.ignValue), (Value.bool x118_.ignLease), (Value.slice x118_.cA x118_.cN x118_.cC), (Value.slice x118_.tA x118_.tN x118_.tC), (Value.slice x118_.eA x118_.eN x118_.eC)] :: cl b99_ 38 [(Value.slice q.tA q.tN q.tC), (Value.slice q.eA q.eN q.eC)] :: cl b2_ 40 [(Value.int .i64 q.kind), (Value.string q.key), (Value.string q.en), (Value.string q.val), (Value.int .i64 q.lease), (Value.int .i64 q.rev), (Value.int .i64 q.limit), (Value.int .i64 q.order), (Value.int .i64 q.target), (Value.int .i64 q.minMod), (Value.int .i64 q.maxMod), (Value.int .i64 q.minCreate), (Value.int .i64 q.maxCreate), (Value.bool q.keysOnly), (Value.bool q.countOnly), (Value.bool q.prev), (Value.bool q.ignValue), (Value.bool q.ignLease), (Value.slice q.cA q.cN q.cC), (Value.slice q.tA q.tN q.tC), (Value.slice q.eA q.eN q.eC)] :: ro R :: F) := H127_
                      have S129_ := Same.trans S125_ S128_
                      refine wpList_nil ?_
                      refine (X_then (hK117_ _ _ ?_))
                      clear hK117_
                      refine C_seq (fun K130_ hK130_ => ?_)
                      refine C_reg ?_
                      refine S_list (T_val (v := (Value.agg #[(Value.int .i64 x118_.kind), (Value.string x118_.key), (Value.string x118_.en), (Value.string x118_.val), (Value.int .i64 x118_.lease), (Value.int .i64 x118_.rev), (Value.int .i64 x118_.limit), (Value.int .i64 x118_.order), (Value.int .i64 x118_.target), (Value.int .i64 x118_.minMod), (Value.int .i64 x118_.maxMod), (Value.int .i64 x118_.minCreate), (Value.int .i64 x118_.maxCreate), (Value.bool x118_.keysOnly), (Value.bool x118_.countOnly), (Value.bool x118_.prev), (Value.bool x118_.ignValue), (Value.bool x118_.ignLease), (Value.slice x118_.cA x118_.cN x118_.cC), (Value.slice x118_.tA x118_.tN x118_.tC), (Value.slice x118_.eA x118_.eN x118_.eC)])) (x_loadN (vs := [(Value.int .i64 x118_.kind), (Value.string x118_.key), (Value.string x118_.en), (Value.string x118_.val), (Value.int .i64 x118_.lease), (Value.int .i64 x118_.rev), (Value.int .i64 x118_.limit), (Value.int .i64 x118_.order), (Value.int .i64 x118_.target), (Value.int .i64 x118_.minMod), (Value.int .i64 x118_.maxMod), (Value.int .i64 x118_.minCreate), (Value.int .i64 x118_.maxCreate), (Value.bool x118_.keysOnly), (Value.bool x118_.countOnly), (Value.bool x118_.prev), (Value.bool x118_.ignValue), (Value.bool x118_.ignLease), (Value.slice x118_.cA x118_.cN x118_.cC), (Value.slice x118_.tA x118_.tN x118_.tC), (Value.slice x118_.eA x118_.eN x118_.eC)]) rfl Try.underlying40 rfl z40 rfl (Rd.cells (Holds.rd H127_ 0 rfl) 0 rfl)) ?_)
                      refine S_list (T_val (v := (Value.int .i64 deep)) (x_move rfl) ?_)
                      refine S_list (T_val (v := (Value.int .i64 (IntKind.i64.wrap (deep - 1)))) (x_bin rfl rfl rfl) ?_)
                      have H134_ : Holds w126_ (ro R :: cl b121_ 40 [(Value.int .i64 x118_.kind), (Value.string x118_.key), (Value.string x118_.en), (Value.string x118_.val), (Value.int .i64 x118_.lease), (Value.int .i64 x118_.rev), (Value.int .i64 x118_.limit), (Value.int .i64 x118_.order), (Value.int .i64 x118_.target), (Value.int .i64 x118_.minMod), (Value.int .i64 x118_.maxMod), (Value.int .i64 x118_.minCreate), (Value.int .i64 x118_.maxCreate), (Value.bool x118_.keysOnly), (Value.bool x118_.countOnly), (Value.bool x118_.prev), (Value.bool x118_.ignValue), (Value.bool x118_.ignLease), (Value.slice x118_.cA x118_.cN x118_.cC), (Value.slice x118_.tA x118_.tN x118_.tC), (Value.slice x118_.eA x118_.eN x118_.eC)] :: cl b99_ 38 [(Value.slice q.tA q.tN q.tC), (Value.slice q.eA q.eN q.eC)] :: cl b2_ 40 [(Value.int .i64 q.kind), (Value.string q.key), (Value.string q.en), (Value.string q.val), (Value.int .i64 q.lease), (Value.int .i64 q.rev), (Value.int .i64 q.limit), (Value.int .i64 q.order), (Value.int .i64 q.target), (Value.int .i64 q.minMod), (Value.int .i64 q.maxMod), (Value.int .i64 q.minCreate), (Value.int .i64 q.maxCreate), (Value.bool q.keysOnly), (Value.bool q.countOnly), (Value.bool q.prev), (Value.bool q.ignValue), (Value.bool q.ignLease), (Value.slice q.cA q.cN q.cC), (Value.slice q.tA q.tN q.tC), (Value.slice q.eA q.eN q.eC)] :: F) := (Holds.bring H127_ 3 rfl)
                      refine S_list (T_call (al := [(Value.agg #[(Value.int .i64 x118_.kind), (Value.string x118_.key), (Value.string x118_.en), (Value.string x118_.val), (Value.int .i64 x118_.lease), (Value.int .i64 x118_.rev), (Value.int .i64 x118_.limit), (Value.int .i64 x118_.order), (Value.int .i64 x118_.target), (Value.int .i64 x118_.minMod), (Value.int .i64 x118_.maxMod), (Value.int .i64 x118_.minCreate), (Value.int .i64 x118_.maxCreate), (Value.bool x118_.keysOnly), (Value.bool x118_.countOnly), (Value.bool x118_.prev), (Value.bool x118_.ignValue), (Value.bool x118_.ignLease), (Value.slice x118_.cA x118_.cN x118_.cC), (Value.slice x118_.tA x118_.tN x118_.tC), (Value.slice x118_.eA x118_.eN x118_.eC)]), (Value.int .i64 (IntKind.i64.wrap (deep - 1)))]) (pre := []) (F := cl b121_ 40 [(Value.int .i64 x118_.kind), (Value.string x118_.key), (Value.string x118_.en), (Value.string x118_.val), (Value.int .i64 x118_.lease), (Value.int .i64 x118_.rev), (Value.int .i64 x118_.limit), (Value.int .i64 x118_.order), (Value.int .i64 x118_.target), (Value.int .i64 x118_.minMod), (Value.int .i64 x118_.maxMod), (Value.int .i64 x118_.minCreate), (Value.int .i64 x118_.maxCreate), (Value.bool x118_.keysOnly), (Value.bool x118_.countOnly), (Value.bool x118_.prev), (Value.bool x118_.ignValue), (Value.bool x118_.ignLease), (Value.slice x118_.cA x118_.cN x118_.cC), (Value.slice x118_.tA x118_.tN x118_.tC), (Value.slice x118_.eA x118_.eN x118_.eC)] :: cl b99_ 38 [(Value.slice q.tA q.tN q.tC), (Value.slice q.eA q.eN q.eC)] :: cl b2_ 40 [(Value.int .i64 q.kind), (Value.string q.key), (Value.string q.en), (Value.string q.val), (Value.int .i64 q.lease), (Value.int .i64 q.rev), (Value.int .i64 q.limit), (Value.int .i64 q.order), (Value.int .i64 q.target), (Value.int .i64 q.minMod), (Value.int .i64 q.maxMod), (Value.int .i64 q.minCreate), (Value.int .i64 q.maxCreate), (Value.bool q.keysOnly), (Value.bool q.countOnly), (Value.bool q.prev), (Value.bool q.ignValue), (Value.bool q.ignLease), (Value.slice q.cA q.cN q.cC), (Value.slice q.tA q.tN q.tC), (Value.slice q.eA q.eN q.eC)] :: F) rfl rfl cb18 (iht x118_ hm120_ (IntKind.i64.wrap (deep - 1))) H134_ ?_)
                      rintro v138_ p139_ w135_ ⟨n131_, ok132_, rfl, hok133_, rfl⟩ S137_ H136_
                      replace H136_ : Holds w135_ (ro R :: cl b121_ 40 [(Value.int .i64 x118_.kind), (Value.string x118_.key), (Value.string x118_.en), (Value.string x118_.val), (Value.int .i64 x118_.lease), (Value.int .i64 x118_.rev), (Value.int .i64 x118_.limit), (Value.int .i64 x118_.order), (Value.int .i64 x118_.target), (Value.int .i64 x118_.minMod), (Value.int .i64 x118_.maxMod), (Value.int .i64 x118_.minCreate), (Value.int .i64 x118_.maxCreate), (Value.bool x118_.keysOnly), (Value.bool x118_.countOnly), (Value.bool x118_.prev), (Value.bool x118_.ignValue), (Value.bool x118_.ignLease), (Value.slice x118_.cA x118_.cN x118_.cC), (Value.slice x118_.tA x118_.tN x118_.tC), (Value.slice x118_.eA x118_.eN x118_.eC)] :: cl b99_ 38 [(Value.slice q.tA q.tN q.tC), (Value.slice q.eA q.eN q.eC)] :: cl b2_ 40 [(Value.int .i64 q.kind), (Value.string q.key), (Value.string q.en), (Value.string q.val), (Value.int .i64 q.lease), (Value.int .i64 q.rev), (Value.int .i64 q.limit), (Value.int .i64 q.order), (Value.int .i64 q.target), (Value.int .i64 q.minMod), (Value.int .i64 q.maxMod), (Value.int .i64 q.minCreate), (Value.int .i64 q.maxCreate), (Value.bool q.keysOnly), (Value.bool q.countOnly), (Value.bool q.prev), (Value.bool q.ignValue), (Value.bool q.ignLease), (Value.slice q.cA q.cN q.cC), (Value.slice q.tA q.tN q.tC), (Value.slice q.eA q.eN q.eC)] :: F) := H136_
                      have S140_ := Same.trans S129_ S137_
                      refine S_list (T_val (v := (Value.tuple #[(Value.int .i64 n131_), (Value.bool ok132_)])) (x_move rfl) ?_)
                      refine S_list (T_val (v := (Value.int .i64 n131_)) (by kernel_rfl) ?_)
                      refine S_list (T_val (v := (Value.bool ok132_)) (by kernel_rfl) ?_)
                      refine S_list (T_val (v := (Value.int .i64 n131_)) (x_assign rfl) ?_)
                      refine S_list (T_val (v := (Value.bool ok132_)) (x_assign rfl) ?_)
                      refine wpList_nil ?_
                      refine (X_then (hK130_ _ _ ?_))
                      clear hK130_
                      refine C_seq (fun K141_ hK141_ => ?_)
                      refine C_reg ?_
                      refine S_list (T_val (v := (Value.int .i64 n6)) (x_move rfl) ?_)
                      refine S_list (T_val (v := (Value.int .i64 n131_)) (x_move rfl) ?_)
                      refine S_list (T_val (v := (Value.int .i64 (IntKind.i64.wrap (n6 + n131_)))) (x_bin rfl rfl rfl) ?_)
                      refine S_list (T_val (v := (Value.int .i64 (IntKind.i64.wrap (n6 + n131_)))) (x_assign rfl) ?_)
                      refine wpList_nil ?_
                      refine (X_then (hK141_ _ _ ?_))
                      clear hK141_
                      refine C_seq (fun K142_ hK142_ => ?_)
                      refine C_reg ?_
                      refine S_list (T_val (v := (Value.bool ok132_)) (x_move rfl) ?_)
                      refine S_list (T_val (v := (Value.bool (!ok132_))) (x_not rfl) ?_)
                      refine wpList_nil ?_
                      refine (X_then (hK142_ _ _ ?_))
                      clear hK142_
                      refine C_cond (b := !ok132_) rfl (fun c143_t => ?_) (fun c143_f => ?_)
                      · skip
                        refine C_seq (fun K144_ hK144_ => ?_)
                        refine C_reg ?_
                        refine S_list (T_val (v := (Value.int .i64 (IntKind.i64.wrap (n6 + n131_)))) (x_move rfl) ?_)
                        refine S_list (T_val (v := (Value.int .i64 (IntKind.i64.wrap (n6 + n131_)))) (x_assign rfl) ?_)
                        refine S_list (T_val (v := (Value.bool false)) (x_assign rfl) ?_)
                        refine wpList_nil ?_
                        refine (X_then (hK144_ _ _ ?_))
                        clear hK144_
                        refine C_ret (X_blkR (X_thenR (X_thenR (X_blkR (X_blkR (X_thenR (X_thenR (X_blkR (X_thenR (X_blkR (X_thenR ?_)))))))))))
                        refine R_any (v := (Value.tuple #[(Value.int .i64 (IntKind.i64.wrap (n6 + n131_))), (Value.bool false)])) (run_results2 rfl rfl rfl) ?_
                        have H145_ : Holds w135_ (ro R :: F) := (Holds.erase (Holds.erase (Holds.erase (Holds.bring H136_ 0 rfl) 1) 1) 1)
                        exact ⟨_, [], rfl, ⟨_, _, rfl, (fun h => by cases h), rfl⟩, S140_, H145_⟩
                      · skip
                        refine C_skip (X_blkN (X_then (hK116_ _ _ ?_)))
                        clear hK116_
                        refine C_reg ?_
                        refine S_list (T_val (v := (Value.int .i64 ((k : Int) + 1))) (x_bin rfl rfl (ib_add (IntWalk.i64_in _ (by omega)))) ?_)
                        refine S_list (T_val (v := (Value.int .i64 ((k : Int) + 1))) (x_move rfl) ?_)
                        refine wpList_nil ?_
                        refine (X_then ?_)
                        have H146_ : Holds w135_ (cl b99_ 38 [(Value.slice q.tA q.tN q.tC), (Value.slice q.eA q.eN q.eC)] :: cl b2_ 40 [(Value.int .i64 q.kind), (Value.string q.key), (Value.string q.en), (Value.string q.val), (Value.int .i64 q.lease), (Value.int .i64 q.rev), (Value.int .i64 q.limit), (Value.int .i64 q.order), (Value.int .i64 q.target), (Value.int .i64 q.minMod), (Value.int .i64 q.maxMod), (Value.int .i64 q.minCreate), (Value.int .i64 q.maxCreate), (Value.bool q.keysOnly), (Value.bool q.countOnly), (Value.bool q.prev), (Value.bool q.ignValue), (Value.bool q.ignLease), (Value.slice q.cA q.cN q.cC), (Value.slice q.tA q.tN q.tC), (Value.slice q.eA q.eN q.eC)] :: ro R :: F) := (Holds.erase (Holds.bring (Holds.bring (Holds.bring H136_ 0 rfl) 3 rfl) 3 rfl) 3)
                        exact ⟨⟨k + 1, IntKind.i64.wrap (n6 + n131_)⟩, ⟨_, congrArg (fun e => mkA 117 e []) (ch (ch (ch (ch (ch (ch (ch (ch (ch rfl (by first | rfl | exact congrArg (Value.int _) (by omega))) (by first | rfl | exact congrArg (Value.int _) (by omega))) (by first | rfl | exact congrArg (Value.int _) (by omega))) (by first | rfl | exact congrArg (Value.int _) (by omega))) (by first | rfl | exact congrArg (Value.int _) (by omega))) (by first | rfl | exact congrArg (Value.int _) (by omega))) (by first | rfl | exact congrArg (Value.int _) (by omega))) (by first | rfl | exact congrArg (Value.int _) (by omega))) (by first | rfl | exact congrArg (Value.int _) (by omega))), H146_, S140_, by omega, fun i y hi hy => by
          rcases Nat.lt_or_ge i k with hlt | hge
          · exact hal i y hlt hy
          · obtain rfl : i = k := by omega
            rw [hx119_] at hy; cases hy; exact hok133_ (by simp_all)⟩, by first | omega | (simp; omega)⟩
                    · have c115_fp : ¬ ((k : Int) < (tt.length : Int)) := of_decide_eq_false c115_f
                      refine C_exit (X_thenX (X_thenX (X_blkHit ?_)))
                      refine (X_blkN (X_then (hK107_ _ _ ?_)))
                      clear hK107_
                      refine C_reg ?_
                      refine S_list (T_val (v := (Value.int .i64 1)) (x_bin rfl rfl (ib_add (IntWalk.i64_in _ (by omega)))) ?_)
                      refine S_list (T_val (v := (Value.int .i64 1)) (x_move rfl) ?_)
                      refine wpList_nil ?_
                      refine (X_then ?_)
                      refine hK104_ _ _ ?_
                      clear hK104_
                      refine C_rounds (fun K147_ hK147_ => ?_)
                      refine C_seq (fun K148_ hK148_ => ?_)
                      refine C_reg ?_
                      refine S_list (T_val (v := (Value.bool true)) (x_bin rfl rfl rfl) ?_)
                      refine wpList_nil ?_
                      refine (X_then (hK148_ _ _ ?_))
                      clear hK148_
                      refine C_seq (fun K149_ hK149_ => ?_)
                      refine C_condT rfl ?_
                      refine C_skip (X_then (hK149_ _ _ ?_))
                      clear hK149_
                      refine C_seq (fun K150_ hK150_ => ?_)
                      refine C_block ?_
                      refine C_seq (fun K151_ hK151_ => ?_)
                      refine C_reg ?_
                      refine S_list (T_val (v := (Value.pointer (some ⟨b99_, 1, none⟩))) (x_indexAddr rfl rfl Try.underlying76 z38 (by omega) (by omega) (by omega : _ = 1) (by first | rfl | simp | (congr 1; omega))) ?_)
                      refine S_list (T_val (v := (Value.slice q.eA q.eN q.eC)) (x_load1 rfl Try.underlying38 rfl ((Holds.rd H111_ 0 rfl) 1 (Value.slice q.eA q.eN q.eC) rfl)) ?_)
                      refine S_list (T_val (v := (Value.slice q.eA q.eN q.eC)) (x_assign rfl) ?_)
                      refine wpList_nil ?_
                      refine (X_then (hK151_ _ _ ?_))
                      clear hK151_
                      refine C_seq (fun K152_ hK152_ => ?_)
                      refine C_reg ?_
                      refine S_list (T_val (v := (Value.slice q.eA q.eN q.eC)) (x_move rfl) ?_)
                      refine S_list (T_val (v := (Value.int .i64 (ee.length : Int))) (x_lenRS rfl hL.e Try.underlying38) ?_)
                      refine S_list (T_val (v := (Value.int .i64 0)) (x_move rfl) ?_)
                      refine wpList_nil ?_
                      refine (X_then (hK152_ _ _ ?_))
                      clear hK152_
                      refine C_block ?_
                      refine C_loop (γ := Nat × Int) (fun x a w1 => match x with | ⟨j, m6⟩ => ∃ h : Env, a = mkA 117 (upd (upd (upd (upd (upd (upd (upd (upd (upd h 96 (Value.int .i64 (j : Int))) 6 (Value.int .i64 m6)) 1 (Value.int .i64 deep)) 2 (Value.pointer (some ⟨b2_, 0, none⟩))) 88 (Value.slice (some ⟨b99_, 0, none⟩) 2 2)) 89 (Value.int .i64 2)) 90 (Value.int .i64 1)) 94 (Value.slice q.eA q.eN q.eC)) 95 (Value.int .i64 (ee.length : Int))) [] ∧ Holds w1 (cl b99_ 38 [(Value.slice q.tA q.tN q.tC), (Value.slice q.eA q.eN q.eC)] :: cl b2_ 40 [(Value.int .i64 q.kind), (Value.string q.key), (Value.string q.en), (Value.string q.val), (Value.int .i64 q.lease), (Value.int .i64 q.rev), (Value.int .i64 q.limit), (Value.int .i64 q.order), (Value.int .i64 q.target), (Value.int .i64 q.minMod), (Value.int .i64 q.maxMod), (Value.int .i64 q.minCreate), (Value.int .i64 q.maxCreate), (Value.bool q.keysOnly), (Value.bool q.countOnly), (Value.bool q.prev), (Value.bool q.ignValue), (Value.bool q.ignLease), (Value.slice q.cA q.cN q.cC), (Value.slice q.tA q.tN q.tC), (Value.slice q.eA q.eN q.eC)] :: ro R :: F) ∧ Same w w1 ∧ (j ≤ ee.length) ∧ (∀ (i : Nat) (y : ReqS), i < j → ee[i]? = some y → ReqG R y)) (fun x => match x with | ⟨j, m6⟩ => ee.length - j) (⟨0, n6⟩) ⟨_, congrArg (fun e => mkA 117 e []) (ch (ch (ch (ch (ch (ch (ch (ch (ch rfl (by first | rfl | exact congrArg (Value.int _) (by omega))) (by first | rfl | exact congrArg (Value.int _) (by omega))) (by first | rfl | exact congrArg (Value.int _) (by omega))) (by first | rfl | exact congrArg (Value.int _) (by omega))) (by first | rfl | exact congrArg (Value.int _) (by omega))) (by first | rfl | exact congrArg (Value.int _) (by omega))) (by first | rfl | exact congrArg (Value.int _) (by omega))) (by first | rfl | exact congrArg (Value.int _) (by omega))) (by first | rfl | exact congrArg (Value.int _) (by omega))), H111_, S112_, by omega, fun i y hi => by omega⟩ ?_
                      rintro ⟨j, m6⟩ _ w153_ ⟨h, rfl, H154_, S155_, hj, hal2⟩
                      refine C_seq (fun K156_ hK156_ => ?_)
                      refine C_reg ?_
                      refine S_list (T_val (v := (Value.bool (decide ((j : Int) < (ee.length : Int))))) (x_bin rfl rfl rfl) ?_)
                      refine wpList_nil ?_
                      refine (X_then (hK156_ _ _ ?_))
                      clear hK156_
                      refine C_seq (fun K157_ hK157_ => ?_)
                      refine C_cond (b := decide ((j : Int) < (ee.length : Int))) rfl (fun c158_t => ?_) (fun c158_f => ?_)
                      · have c158_tp : (j : Int) < (ee.length : Int) := of_decide_eq_true c158_t
                        refine C_skip (X_then (hK157_ _ _ ?_))
                        clear hK157_
                        refine C_seq (fun K159_ hK159_ => ?_)
                        refine C_block ?_
                        refine C_seq (fun K160_ hK160_ => ?_)
                        refine C_reg ?_
                        obtain ⟨x161_, hx162_, hm163_⟩ := elem_at ee j (by omega)
                        refine S_list (T_val (v := (Value.pointer (some ⟨(sb (Value.slice q.eA q.eN q.eC)), so (Value.slice q.eA q.eN q.eC) + (j * 21 + 0), none⟩))) (x_idxRS (v := (Value.slice q.eA q.eN q.eC)) rfl hL.e rfl Try.underlying38 z40 (by omega) (by omega) (by omega : _ = j) rfl) ?_)
                        refine S_list (T_val (v := (Value.agg #[(Value.int .i64 x161_.kind), (Value.string x161_.key), (Value.string x161_.en), (Value.string x161_.val), (Value.int .i64 x161_.lease), (Value.int .i64 x161_.rev), (Value.int .i64 x161_.limit), (Value.int .i64 x161_.order), (Value.int .i64 x161_.target), (Value.int .i64 x161_.minMod), (Value.int .i64 x161_.maxMod), (Value.int .i64 x161_.minCreate), (Value.int .i64 x161_.maxCreate), (Value.bool x161_.keysOnly), (Value.bool x161_.countOnly), (Value.bool x161_.prev), (Value.bool x161_.ignValue), (Value.bool x161_.ignLease), (Value.slice x161_.cA x161_.cN x161_.cC), (Value.slice x161_.tA x161_.tN x161_.tC), (Value.slice x161_.eA x161_.eN x161_.eC)])) (x_loadN (vs := [(Value.int .i64 x161_.kind), (Value.string x161_.key), (Value.string x161_.en), (Value.string x161_.val), (Value.int .i64 x161_.lease), (Value.int .i64 x161_.rev), (Value.int .i64 x161_.limit), (Value.int .i64 x161_.order), (Value.int .i64 x161_.target), (Value.int .i64 x161_.minMod), (Value.int .i64 x161_.maxMod), (Value.int .i64 x161_.minCreate), (Value.int .i64 x161_.maxCreate), (Value.bool x161_.keysOnly), (Value.bool x161_.countOnly), (Value.bool x161_.prev), (Value.bool x161_.ignValue), (Value.bool x161_.ignLease), (Value.slice x161_.cA x161_.cN x161_.cC), (Value.slice x161_.tA x161_.tN x161_.tC), (Value.slice x161_.eA x161_.eN x161_.eC)]) rfl Try.underlying40 rfl z40 rfl (RC.cells (RS.rc hL.e) (Holds.ro_at H154_ 2 rfl) (j * 21 + 0) (fm_cells ReqS.len hx162_ (i := 0) rfl))) ?_)
                        refine S_list (T_alloc z40 H154_ ?_)
                        intro b164_ w165_ S167_ H166_
                        replace H166_ : Holds w165_ (cl b164_ 40 [(Value.int .i64 0), (Value.string ByteArray.empty), (Value.string ByteArray.empty), (Value.string ByteArray.empty), (Value.int .i64 0), (Value.int .i64 0), (Value.int .i64 0), (Value.int .i64 0), (Value.int .i64 0), (Value.int .i64 0), (Value.int .i64 0), (Value.int .i64 0), (Value.int .i64 0), (Value.bool false), (Value.bool false), (Value.bool false), (Value.bool false), (Value.bool false), (Value.slice none 0 0), (Value.slice none 0 0), (Value.slice none 0 0)] :: cl b99_ 38 [(Value.slice q.tA q.tN q.tC), (Value.slice q.eA q.eN q.eC)] :: cl b2_ 40 [(Value.int .i64 q.kind), (Value.string q.key), (Value.string q.en), (Value.string q.val), (Value.int .i64 q.lease), (Value.int .i64 q.rev), (Value.int .i64 q.limit), (Value.int .i64 q.order), (Value.int .i64 q.target), (Value.int .i64 q.minMod), (Value.int .i64 q.maxMod), (Value.int .i64 q.minCreate), (Value.int .i64 q.maxCreate), (Value.bool q.keysOnly), (Value.bool q.countOnly), (Value.bool q.prev), (Value.bool q.ignValue), (Value.bool q.ignLease), (Value.slice q.cA q.cN q.cC), (Value.slice q.tA q.tN q.tC), (Value.slice q.eA q.eN q.eC)] :: ro R :: F) := H166_
                        have S168_ := Same.trans S155_ S167_
                        refine S_list0 (T_storeN (vs := [(Value.int .i64 x161_.kind), (Value.string x161_.key), (Value.string x161_.en), (Value.string x161_.val), (Value.int .i64 x161_.lease), (Value.int .i64 x161_.rev), (Value.int .i64 x161_.limit), (Value.int .i64 x161_.order), (Value.int .i64 x161_.target), (Value.int .i64 x161_.minMod), (Value.int .i64 x161_.maxMod), (Value.int .i64 x161_.minCreate), (Value.int .i64 x161_.maxCreate), (Value.bool x161_.keysOnly), (Value.bool x161_.countOnly), (Value.bool x161_.prev), (Value.bool x161_.ignValue), (Value.bool x161_.ignLease), (Value.slice x161_.cA x161_.cN x161_.cC), (Value.slice x161_.tA x161_.tN x161_.tC), (Value.slice x161_.eA x161_.eN x161_.eC)]) rfl rfl z40 rfl (by simp [Value.oneCell']) H166_ 0 rfl (Nat.le_of_ble_eq_true (by rfl)) ?_)
                        intro w169_ S171_ H170_
                        replace H170_ : Holds w169_ (cl b164_ 40 [(Value.int .i64 x161_.kind), (Value.string x161_.key), (Value.string x161_.en), (Value.string x161_.val), (Value.int .i64 x161_.lease), (Value.int .i64 x161_.rev), (Value.int .i64 x161_.limit), (Value.int .i64 x161_.order), (Value.int .i64 x161_.target), (Value.int .i64 x161_.minMod), (Value.int .i64 x161_.maxMod), (Value.int .i64 x161_.minCreate), (Value.int .i64 x161_.maxCreate), (Value.bool x161_.keysOnly), (Value.bool x161_.countOnly), (Value.bool x161_.prev), (Value.bool x161_.ignValue), (Value.bool x161_.ignLease), (Value.slice x161_.cA x161_.cN x161_.cC), (Value.slice x161_.tA x161_.tN x161_.tC), (Value.slice x161_.eA x161_.eN x161_.eC)] :: cl b99_ 38 [(Value.slice q.tA q.tN q.tC), (Value.slice q.eA q.eN q.eC)] :: cl b2_ 40 [(Value.int .i64 q.kind), (Value.string q.key), (Value.string q.en), (Value.string q.val), (Value.int .i64 q.lease), (Value.int .i64 q.rev), (Value.int .i64 q.limit), (Value.int .i64 q.order), (Value.int .i64 q.target), (Value.int .i64 q.minMod), (Value.int .i64 q.maxMod), (Value.int .i64 q.minCreate), (Value.int .i64 q.maxCreate), (Value.bool q.keysOnly), (Value.bool q.countOnly), (Value.bool q.prev), (Value.bool q.ignValue), (Value.bool q.ignLease), (Value.slice q.cA q.cN q.cC), (Value.slice q.tA q.tN q.tC), (Value.slice q.eA q.eN q.eC)] :: ro R :: F) := H170_
                        have S172_ := Same.trans S168_ S171_
                        refine wpList_nil ?_
                        refine (X_then (hK160_ _ _ ?_))
                        clear hK160_
                        refine C_seq (fun K173_ hK173_ => ?_)
                        refine C_reg ?_
                        refine S_list (T_val (v := (Value.agg #[(Value.int .i64 x161_.kind), (Value.string x161_.key), (Value.string x161_.en), (Value.string x161_.val), (Value.int .i64 x161_.lease), (Value.int .i64 x161_.rev), (Value.int .i64 x161_.limit), (Value.int .i64 x161_.order), (Value.int .i64 x161_.target), (Value.int .i64 x161_.minMod), (Value.int .i64 x161_.maxMod), (Value.int .i64 x161_.minCreate), (Value.int .i64 x161_.maxCreate), (Value.bool x161_.keysOnly), (Value.bool x161_.countOnly), (Value.bool x161_.prev), (Value.bool x161_.ignValue), (Value.bool x161_.ignLease), (Value.slice x161_.cA x161_.cN x161_.cC), (Value.slice x161_.tA x161_.tN x161_.tC), (Value.slice x161_.eA x161_.eN x161_.eC)])) (x_loadN (vs := [(Value.int .i64 x161_.kind), (Value.string x161_.key), (Value.string x161_.en), (Value.string x161_.val), (Value.int .i64 x161_.lease), (Value.int .i64 x161_.rev), (Value.int .i64 x161_.limit), (Value.int .i64 x161_.order), (Value.int .i64 x161_.target), (Value.int .i64 x161_.minMod), (Value.int .i64 x161_.maxMod), (Value.int .i64 x161_.minCreate), (Value.int .i64 x161_.maxCreate), (Value.bool x161_.keysOnly), (Value.bool x161_.countOnly), (Value.bool x161_.prev), (Value.bool x161_.ignValue), (Value.bool x161_.ignLease), (Value.slice x161_.cA x161_.cN x161_.cC), (Value.slice x161_.tA x161_.tN x161_.tC), (Value.slice x161_.eA x161_.eN x161_.eC)]) rfl Try.underlying40 rfl z40 rfl (Rd.cells (Holds.rd H170_ 0 rfl) 0 rfl)) ?_)
                        refine S_list (T_val (v := (Value.int .i64 deep)) (x_move rfl) ?_)
                        refine S_list (T_val (v := (Value.int .i64 (IntKind.i64.wrap (deep - 1)))) (x_bin rfl rfl rfl) ?_)
                        have H177_ : Holds w169_ (ro R :: cl b164_ 40 [(Value.int .i64 x161_.kind), (Value.string x161_.key), (Value.string x161_.en), (Value.string x161_.val), (Value.int .i64 x161_.lease), (Value.int .i64 x161_.rev), (Value.int .i64 x161_.limit), (Value.int .i64 x161_.order), (Value.int .i64 x161_.target), (Value.int .i64 x161_.minMod), (Value.int .i64 x161_.maxMod), (Value.int .i64 x161_.minCreate), (Value.int .i64 x161_.maxCreate), (Value.bool x161_.keysOnly), (Value.bool x161_.countOnly), (Value.bool x161_.prev), (Value.bool x161_.ignValue), (Value.bool x161_.ignLease), (Value.slice x161_.cA x161_.cN x161_.cC), (Value.slice x161_.tA x161_.tN x161_.tC), (Value.slice x161_.eA x161_.eN x161_.eC)] :: cl b99_ 38 [(Value.slice q.tA q.tN q.tC), (Value.slice q.eA q.eN q.eC)] :: cl b2_ 40 [(Value.int .i64 q.kind), (Value.string q.key), (Value.string q.en), (Value.string q.val), (Value.int .i64 q.lease), (Value.int .i64 q.rev), (Value.int .i64 q.limit), (Value.int .i64 q.order), (Value.int .i64 q.target), (Value.int .i64 q.minMod), (Value.int .i64 q.maxMod), (Value.int .i64 q.minCreate), (Value.int .i64 q.maxCreate), (Value.bool q.keysOnly), (Value.bool q.countOnly), (Value.bool q.prev), (Value.bool q.ignValue), (Value.bool q.ignLease), (Value.slice q.cA q.cN q.cC), (Value.slice q.tA q.tN q.tC), (Value.slice q.eA q.eN q.eC)] :: F) := (Holds.bring H170_ 3 rfl)
                        refine S_list (T_call (al := [(Value.agg #[(Value.int .i64 x161_.kind), (Value.string x161_.key), (Value.string x161_.en), (Value.string x161_.val), (Value.int .i64 x161_.lease), (Value.int .i64 x161_.rev), (Value.int .i64 x161_.limit), (Value.int .i64 x161_.order), (Value.int .i64 x161_.target), (Value.int .i64 x161_.minMod), (Value.int .i64 x161_.maxMod), (Value.int .i64 x161_.minCreate), (Value.int .i64 x161_.maxCreate), (Value.bool x161_.keysOnly), (Value.bool x161_.countOnly), (Value.bool x161_.prev), (Value.bool x161_.ignValue), (Value.bool x161_.ignLease), (Value.slice x161_.cA x161_.cN x161_.cC), (Value.slice x161_.tA x161_.tN x161_.tC), (Value.slice x161_.eA x161_.eN x161_.eC)]), (Value.int .i64 (IntKind.i64.wrap (deep - 1)))]) (pre := []) (F := cl b164_ 40 [(Value.int .i64 x161_.kind), (Value.string x161_.key), (Value.string x161_.en), (Value.string x161_.val), (Value.int .i64 x161_.lease), (Value.int .i64 x161_.rev), (Value.int .i64 x161_.limit), (Value.int .i64 x161_.order), (Value.int .i64 x161_.target), (Value.int .i64 x161_.minMod), (Value.int .i64 x161_.maxMod), (Value.int .i64 x161_.minCreate), (Value.int .i64 x161_.maxCreate), (Value.bool x161_.keysOnly), (Value.bool x161_.countOnly), (Value.bool x161_.prev), (Value.bool x161_.ignValue), (Value.bool x161_.ignLease), (Value.slice x161_.cA x161_.cN x161_.cC), (Value.slice x161_.tA x161_.tN x161_.tC), (Value.slice x161_.eA x161_.eN x161_.eC)] :: cl b99_ 38 [(Value.slice q.tA q.tN q.tC), (Value.slice q.eA q.eN q.eC)] :: cl b2_ 40 [(Value.int .i64 q.kind), (Value.string q.key), (Value.string q.en), (Value.string q.val), (Value.int .i64 q.lease), (Value.int .i64 q.rev), (Value.int .i64 q.limit), (Value.int .i64 q.order), (Value.int .i64 q.target), (Value.int .i64 q.minMod), (Value.int .i64 q.maxMod), (Value.int .i64 q.minCreate), (Value.int .i64 q.maxCreate), (Value.bool q.keysOnly), (Value.bool q.countOnly), (Value.bool q.prev), (Value.bool q.ignValue), (Value.bool q.ignLease), (Value.slice q.cA q.cN q.cC), (Value.slice q.tA q.tN q.tC), (Value.slice q.eA q.eN q.eC)] :: F) rfl rfl cb18 (ihe x161_ hm163_ (IntKind.i64.wrap (deep - 1))) H177_ ?_)
                        rintro v181_ p182_ w178_ ⟨n174_, ok175_, rfl, hok176_, rfl⟩ S180_ H179_
                        replace H179_ : Holds w178_ (ro R :: cl b164_ 40 [(Value.int .i64 x161_.kind), (Value.string x161_.key), (Value.string x161_.en), (Value.string x161_.val), (Value.int .i64 x161_.lease), (Value.int .i64 x161_.rev), (Value.int .i64 x161_.limit), (Value.int .i64 x161_.order), (Value.int .i64 x161_.target), (Value.int .i64 x161_.minMod), (Value.int .i64 x161_.maxMod), (Value.int .i64 x161_.minCreate), (Value.int .i64 x161_.maxCreate), (Value.bool x161_.keysOnly), (Value.bool x161_.countOnly), (Value.bool x161_.prev), (Value.bool x161_.ignValue), (Value.bool x161_.ignLease), (Value.slice x161_.cA x161_.cN x161_.cC), (Value.slice x161_.tA x161_.tN x161_.tC), (Value.slice x161_.eA x161_.eN x161_.eC)] :: cl b99_ 38 [(Value.slice q.tA q.tN q.tC), (Value.slice q.eA q.eN q.eC)] :: cl b2_ 40 [(Value.int .i64 q.kind), (Value.string q.key), (Value.string q.en), (Value.string q.val), (Value.int .i64 q.lease), (Value.int .i64 q.rev), (Value.int .i64 q.limit), (Value.int .i64 q.order), (Value.int .i64 q.target), (Value.int .i64 q.minMod), (Value.int .i64 q.maxMod), (Value.int .i64 q.minCreate), (Value.int .i64 q.maxCreate), (Value.bool q.keysOnly), (Value.bool q.countOnly), (Value.bool q.prev), (Value.bool q.ignValue), (Value.bool q.ignLease), (Value.slice q.cA q.cN q.cC), (Value.slice q.tA q.tN q.tC), (Value.slice q.eA q.eN q.eC)] :: F) := H179_
                        have S183_ := Same.trans S172_ S180_
                        refine S_list (T_val (v := (Value.tuple #[(Value.int .i64 n174_), (Value.bool ok175_)])) (x_move rfl) ?_)
                        refine S_list (T_val (v := (Value.int .i64 n174_)) (by kernel_rfl) ?_)
                        refine S_list (T_val (v := (Value.bool ok175_)) (by kernel_rfl) ?_)
                        refine S_list (T_val (v := (Value.int .i64 n174_)) (x_assign rfl) ?_)
                        refine S_list (T_val (v := (Value.bool ok175_)) (x_assign rfl) ?_)
                        refine wpList_nil ?_
                        refine (X_then (hK173_ _ _ ?_))
                        clear hK173_
                        refine C_seq (fun K184_ hK184_ => ?_)
                        refine C_reg ?_
                        refine S_list (T_val (v := (Value.int .i64 m6)) (x_move rfl) ?_)
                        refine S_list (T_val (v := (Value.int .i64 n174_)) (x_move rfl) ?_)
                        refine S_list (T_val (v := (Value.int .i64 (IntKind.i64.wrap (m6 + n174_)))) (x_bin rfl rfl rfl) ?_)
                        refine S_list (T_val (v := (Value.int .i64 (IntKind.i64.wrap (m6 + n174_)))) (x_assign rfl) ?_)
                        refine wpList_nil ?_
                        refine (X_then (hK184_ _ _ ?_))
                        clear hK184_
                        refine C_seq (fun K185_ hK185_ => ?_)
                        refine C_reg ?_
                        refine S_list (T_val (v := (Value.bool ok175_)) (x_move rfl) ?_)
                        refine S_list (T_val (v := (Value.bool (!ok175_))) (x_not rfl) ?_)
                        refine wpList_nil ?_
                        refine (X_then (hK185_ _ _ ?_))
                        clear hK185_
                        refine C_cond (b := !ok175_) rfl (fun c186_t => ?_) (fun c186_f => ?_)
                        · skip
                          refine C_seq (fun K187_ hK187_ => ?_)
                          refine C_reg ?_
                          refine S_list (T_val (v := (Value.int .i64 (IntKind.i64.wrap (m6 + n174_)))) (x_move rfl) ?_)
                          refine S_list (T_val (v := (Value.int .i64 (IntKind.i64.wrap (m6 + n174_)))) (x_assign rfl) ?_)
                          refine S_list (T_val (v := (Value.bool false)) (x_assign rfl) ?_)
                          refine wpList_nil ?_
                          refine (X_then (hK187_ _ _ ?_))
                          clear hK187_
                          refine C_ret (X_blkR (X_thenR (X_thenR (X_blkR (X_blkR (X_thenR (X_thenR (X_blkR (X_thenR (X_blkR (X_thenR ?_)))))))))))
                          refine R_any (v := (Value.tuple #[(Value.int .i64 (IntKind.i64.wrap (m6 + n174_))), (Value.bool false)])) (run_results2 rfl rfl rfl) ?_
                          have H188_ : Holds w178_ (ro R :: F) := (Holds.erase (Holds.erase (Holds.erase (Holds.bring H179_ 0 rfl) 1) 1) 1)
                          exact ⟨_, [], rfl, ⟨_, _, rfl, (fun h => by cases h), rfl⟩, S183_, H188_⟩
                        · skip
                          refine C_skip (X_blkN (X_then (hK159_ _ _ ?_)))
                          clear hK159_
                          refine C_reg ?_
                          refine S_list (T_val (v := (Value.int .i64 ((j : Int) + 1))) (x_bin rfl rfl (ib_add (IntWalk.i64_in _ (by omega)))) ?_)
                          refine S_list (T_val (v := (Value.int .i64 ((j : Int) + 1))) (x_move rfl) ?_)
                          refine wpList_nil ?_
                          refine (X_then ?_)
                          have H189_ : Holds w178_ (cl b99_ 38 [(Value.slice q.tA q.tN q.tC), (Value.slice q.eA q.eN q.eC)] :: cl b2_ 40 [(Value.int .i64 q.kind), (Value.string q.key), (Value.string q.en), (Value.string q.val), (Value.int .i64 q.lease), (Value.int .i64 q.rev), (Value.int .i64 q.limit), (Value.int .i64 q.order), (Value.int .i64 q.target), (Value.int .i64 q.minMod), (Value.int .i64 q.maxMod), (Value.int .i64 q.minCreate), (Value.int .i64 q.maxCreate), (Value.bool q.keysOnly), (Value.bool q.countOnly), (Value.bool q.prev), (Value.bool q.ignValue), (Value.bool q.ignLease), (Value.slice q.cA q.cN q.cC), (Value.slice q.tA q.tN q.tC), (Value.slice q.eA q.eN q.eC)] :: ro R :: F) := (Holds.erase (Holds.bring (Holds.bring (Holds.bring H179_ 0 rfl) 3 rfl) 3 rfl) 3)
                          exact ⟨⟨j + 1, IntKind.i64.wrap (m6 + n174_)⟩, ⟨_, congrArg (fun e => mkA 117 e []) (ch (ch (ch (ch (ch (ch (ch (ch (ch rfl (by first | rfl | exact congrArg (Value.int _) (by omega))) (by first | rfl | exact congrArg (Value.int _) (by omega))) (by first | rfl | exact congrArg (Value.int _) (by omega))) (by first | rfl | exact congrArg (Value.int _) (by omega))) (by first | rfl | exact congrArg (Value.int _) (by omega))) (by first | rfl | exact congrArg (Value.int _) (by omega))) (by first | rfl | exact congrArg (Value.int _) (by omega))) (by first | rfl | exact congrArg (Value.int _) (by omega))) (by first | rfl | exact congrArg (Value.int _) (by omega))), H189_, S183_, by omega, fun i y hi hy => by
          rcases Nat.lt_or_ge i j with hlt | hge
          · exact hal2 i y hlt hy
          · obtain rfl : i = j := by omega
            rw [hx162_] at hy; cases hy; exact hok176_ (by simp_all)⟩, by first | omega | (simp; omega)⟩
                      · have c158_fp : ¬ ((j : Int) < (ee.length : Int)) := of_decide_eq_false c158_f
                        refine C_exit (X_thenX (X_thenX (X_blkHit ?_)))
                        refine (X_blkN (X_then (hK150_ _ _ ?_)))
                        clear hK150_
                        refine C_reg ?_
                        refine S_list (T_val (v := (Value.int .i64 2)) (x_bin rfl rfl (ib_add (IntWalk.i64_in _ (by omega)))) ?_)
                        refine S_list (T_val (v := (Value.int .i64 2)) (x_move rfl) ?_)
                        refine wpList_nil ?_
                        refine (X_then ?_)
                        refine hK147_ _ _ ?_
                        clear hK147_
                        refine C_rounds (fun K190_ hK190_ => ?_)
                        refine C_seq (fun K191_ hK191_ => ?_)
                        refine C_reg ?_
                        refine S_list (T_val (v := (Value.bool false)) (x_bin rfl rfl rfl) ?_)
                        refine wpList_nil ?_
                        refine (X_then (hK191_ _ _ ?_))
                        clear hK191_
                        refine C_seq (fun K192_ hK192_ => ?_)
                        refine C_condF rfl ?_
                        refine C_exit (X_thenX (X_thenX (X_blkHit ?_)))
                        refine (X_then (hK97_ _ _ ?_))
                        clear hK97_
                        refine C_seq (fun K193_ hK193_ => ?_)
                        refine C_reg ?_
                        refine S_list (T_val (v := (Value.int .i64 m6)) (x_move rfl) ?_)
                        refine S_list (T_val (v := (Value.int .i64 m6)) (x_assign rfl) ?_)
                        refine S_list (T_val (v := (Value.bool true)) (x_assign rfl) ?_)
                        refine wpList_nil ?_
                        refine (X_then (hK193_ _ _ ?_))
                        clear hK193_
                        refine C_ret (X_blkR (X_thenR ?_))
                        refine R_any (v := (Value.tuple #[(Value.int .i64 m6), (Value.bool true)])) (run_results2 rfl rfl rfl) ?_
                        have H194_ : Holds w153_ (ro R :: F) := (Holds.erase (Holds.erase (Holds.bring H154_ 2 rfl) 1) 1)
                        exact ⟨_, [], rfl, ⟨_, _, rfl, (fun h => ⟨by omega, by omega, fun _ => ⟨⟨by omega, by omega, by omega⟩, forall_idx fun i y hi hy => hal i y (by omega) hy, forall_idx fun i y hi hy => hal2 i y (by omega) hy⟩⟩), rfl⟩, S155_, H194_⟩
        · have c47_fp : ¬ (q.kind = 4) := of_decide_eq_false c47_f
          refine C_skip (X_blkN (X_then (hK8_ _ _ ?_)))
          clear hK8_
          refine C_seq (fun K195_ hK195_ => ?_)
          refine C_reg ?_
          refine S_list (T_val (v := (Value.int .i64 1)) (x_move rfl) ?_)
          refine S_list (T_val (v := (Value.int .i64 1)) (x_assign rfl) ?_)
          refine S_list (T_val (v := (Value.bool false)) (x_assign rfl) ?_)
          refine wpList_nil ?_
          refine (X_then (hK195_ _ _ ?_))
          clear hK195_
          refine C_ret ?_
          refine R_any (v := (Value.tuple #[(Value.int .i64 1), (Value.bool false)])) (run_results2 rfl rfl rfl) ?_
          have H196_ : Holds w3_ (ro R :: F) := (Holds.erase (Holds.bring H4_ 1 rfl) 1)
          exact ⟨_, [], rfl, ⟨_, _, rfl, (fun h => by cases h), rfl⟩, S6_, H196_⟩

theorem kGoodAll (R : HP) (q : ReqS) (hT : ReqT R q) : ∀ deep : Int, Tri Try.prog 18 #[.agg q.cells.toArray, .int .i64 deep] R [] (fun v post => ∃ (n : Int) (ok : Bool), v = .tuple #[.int .i64 n, .bool ok] ∧ (ok = true → ReqG R q) ∧ post = []) := by
  induction hT with
  | mk q cc tt ee hL ht he iht ihe =>
    intro deep
    exact (kGoodStep R q cc tt ee hL deep iht ihe).mono fun v post ⟨n, ok, e, h, hp⟩ => ⟨n, ok, e, fun hok => (h hok).req hL, hp⟩

set_option maxHeartbeats 400000 in
theorem fnTxnKinds (R : HP) (q : ReqS) (cc : List CmpS) (tt ee : List ReqS) (hL : Lists R q cc tt ee) (hTt : ∀ x ∈ tt, ReqT R x) (hTe : ∀ x ∈ ee, ReqT R x) :
    Tri Try.prog 5 #[(Value.agg #[(Value.int .i64 q.kind), (Value.string q.key), (Value.string q.en), (Value.string q.val), (Value.int .i64 q.lease), (Value.int .i64 q.rev), (Value.int .i64 q.limit), (Value.int .i64 q.order), (Value.int .i64 q.target), (Value.int .i64 q.minMod), (Value.int .i64 q.maxMod), (Value.int .i64 q.minCreate), (Value.int .i64 q.maxCreate), (Value.bool q.keysOnly), (Value.bool q.countOnly), (Value.bool q.prev), (Value.bool q.ignValue), (Value.bool q.ignLease), (Value.slice q.cA q.cN q.cC), (Value.slice q.tA q.tN q.tC), (Value.slice q.eA q.eN q.eC)])] R [] (fun v post => v = .bool true ∧ post = []) := by
  refine Tri.into (n := 46) (al := [(Value.agg #[(Value.int .i64 q.kind), (Value.string q.key), (Value.string q.en), (Value.string q.val), (Value.int .i64 q.lease), (Value.int .i64 q.rev), (Value.int .i64 q.limit), (Value.int .i64 q.order), (Value.int .i64 q.target), (Value.int .i64 q.minMod), (Value.int .i64 q.maxMod), (Value.int .i64 q.minCreate), (Value.int .i64 q.maxCreate), (Value.bool q.keysOnly), (Value.bool q.countOnly), (Value.bool q.prev), (Value.bool q.ignValue), (Value.bool q.ignLease), (Value.slice q.cA q.cN q.cC), (Value.slice q.tA q.tN q.tC), (Value.slice q.eA q.eN q.eC)])]) Try.func5 rfl Try.ntmps5 rfl rfl fun w F H => ?_
  replace H : Holds w (ro R :: F) := H
  refine C_seq (fun K1_ hK1_ => ?_)
  refine C_reg ?_
  refine S_list (T_box (v := (Value.agg #[(Value.int .i64 q.kind), (Value.string q.key), (Value.string q.en), (Value.string q.val), (Value.int .i64 q.lease), (Value.int .i64 q.rev), (Value.int .i64 q.limit), (Value.int .i64 q.order), (Value.int .i64 q.target), (Value.int .i64 q.minMod), (Value.int .i64 q.maxMod), (Value.int .i64 q.minCreate), (Value.int .i64 q.maxCreate), (Value.bool q.keysOnly), (Value.bool q.countOnly), (Value.bool q.prev), (Value.bool q.ignValue), (Value.bool q.ignLease), (Value.slice q.cA q.cN q.cC), (Value.slice q.tA q.tN q.tC), (Value.slice q.eA q.eN q.eC)])) rfl H ?_)
  intro b2_ w3_ S5_ H4_
  replace H4_ : Holds w3_ (cl b2_ 40 [(Value.int .i64 q.kind), (Value.string q.key), (Value.string q.en), (Value.string q.val), (Value.int .i64 q.lease), (Value.int .i64 q.rev), (Value.int .i64 q.limit), (Value.int .i64 q.order), (Value.int .i64 q.target), (Value.int .i64 q.minMod), (Value.int .i64 q.maxMod), (Value.int .i64 q.minCreate), (Value.int .i64 q.maxCreate), (Value.bool q.keysOnly), (Value.bool q.countOnly), (Value.bool q.prev), (Value.bool q.ignValue), (Value.bool q.ignLease), (Value.slice q.cA q.cN q.cC), (Value.slice q.tA q.tN q.tC), (Value.slice q.eA q.eN q.eC)] :: ro R :: F) := H4_
  have S6_ := Same.trans (Same.refl w) S5_
  refine S_list (T_val (v := (Value.bool false)) (x_assign rfl) ?_)
  refine wpList_nil ?_
  refine (X_then (hK1_ _ _ ?_))
  clear hK1_
  refine C_seq (fun K7_ hK7_ => ?_)
  refine C_seq (fun K8_ hK8_ => ?_)
  refine C_reg ?_
  refine S_list (T_val (v := (Value.agg #[(Value.int .i64 q.kind), (Value.string q.key), (Value.string q.en), (Value.string q.val), (Value.int .i64 q.lease), (Value.int .i64 q.rev), (Value.int .i64 q.limit), (Value.int .i64 q.order), (Value.int .i64 q.target), (Value.int .i64 q.minMod), (Value.int .i64 q.maxMod), (Value.int .i64 q.minCreate), (Value.int .i64 q.maxCreate), (Value.bool q.keysOnly), (Value.bool q.countOnly), (Value.bool q.prev), (Value.bool q.ignValue), (Value.bool q.ignLease), (Value.slice q.cA q.cN q.cC), (Value.slice q.tA q.tN q.tC), (Value.slice q.eA q.eN q.eC)])) (x_loadN (vs := [(Value.int .i64 q.kind), (Value.string q.key), (Value.string q.en), (Value.string q.val), (Value.int .i64 q.lease), (Value.int .i64 q.rev), (Value.int .i64 q.limit), (Value.int .i64 q.order), (Value.int .i64 q.target), (Value.int .i64 q.minMod), (Value.int .i64 q.maxMod), (Value.int .i64 q.minCreate), (Value.int .i64 q.maxCreate), (Value.bool q.keysOnly), (Value.bool q.countOnly), (Value.bool q.prev), (Value.bool q.ignValue), (Value.bool q.ignLease), (Value.slice q.cA q.cN q.cC), (Value.slice q.tA q.tN q.tC), (Value.slice q.eA q.eN q.eC)]) rfl Try.underlying40 rfl z40 rfl (Rd.cells (Holds.rd H4_ 0 rfl) 0 rfl)) ?_)
  have H10_ : Holds w3_ (ro R :: cl b2_ 40 [(Value.int .i64 q.kind), (Value.string q.key), (Value.string q.en), (Value.string q.val), (Value.int .i64 q.lease), (Value.int .i64 q.rev), (Value.int .i64 q.limit), (Value.int .i64 q.order), (Value.int .i64 q.target), (Value.int .i64 q.minMod), (Value.int .i64 q.maxMod), (Value.int .i64 q.minCreate), (Value.int .i64 q.maxCreate), (Value.bool q.keysOnly), (Value.bool q.countOnly), (Value.bool q.prev), (Value.bool q.ignValue), (Value.bool q.ignLease), (Value.slice q.cA q.cN q.cC), (Value.slice q.tA q.tN q.tC), (Value.slice q.eA q.eN q.eC)] :: F) := (Holds.bring H4_ 1 rfl)
  refine S_list (T_call (al := [(Value.agg #[(Value.int .i64 q.kind), (Value.string q.key), (Value.string q.en), (Value.string q.val), (Value.int .i64 q.lease), (Value.int .i64 q.rev), (Value.int .i64 q.limit), (Value.int .i64 q.order), (Value.int .i64 q.target), (Value.int .i64 q.minMod), (Value.int .i64 q.maxMod), (Value.int .i64 q.minCreate), (Value.int .i64 q.maxCreate), (Value.bool q.keysOnly), (Value.bool q.countOnly), (Value.bool q.prev), (Value.bool q.ignValue), (Value.bool q.ignLease), (Value.slice q.cA q.cN q.cC), (Value.slice q.tA q.tN q.tC), (Value.slice q.eA q.eN q.eC)])]) (pre := []) (F := cl b2_ 40 [(Value.int .i64 q.kind), (Value.string q.key), (Value.string q.en), (Value.string q.val), (Value.int .i64 q.lease), (Value.int .i64 q.rev), (Value.int .i64 q.limit), (Value.int .i64 q.order), (Value.int .i64 q.target), (Value.int .i64 q.minMod), (Value.int .i64 q.maxMod), (Value.int .i64 q.minCreate), (Value.int .i64 q.maxCreate), (Value.bool q.keysOnly), (Value.bool q.countOnly), (Value.bool q.prev), (Value.bool q.ignValue), (Value.bool q.ignLease), (Value.slice q.cA q.cN q.cC), (Value.slice q.tA q.tN q.tC), (Value.slice q.eA q.eN q.eC)] :: F) rfl rfl cb17 (kFits8 R q cc tt ee hL) H10_ ?_)
  rintro v14_ p15_ w11_ ⟨⟨q9_, rfl⟩, rfl⟩ S13_ H12_
  replace H12_ : Holds w11_ (ro R :: cl b2_ 40 [(Value.int .i64 q.kind), (Value.string q.key), (Value.string q.en), (Value.string q.val), (Value.int .i64 q.lease), (Value.int .i64 q.rev), (Value.int .i64 q.limit), (Value.int .i64 q.order), (Value.int .i64 q.target), (Value.int .i64 q.minMod), (Value.int .i64 q.maxMod), (Value.int .i64 q.minCreate), (Value.int .i64 q.maxCreate), (Value.bool q.keysOnly), (Value.bool q.countOnly), (Value.bool q.prev), (Value.bool q.ignValue), (Value.bool q.ignLease), (Value.slice q.cA q.cN q.cC), (Value.slice q.tA q.tN q.tC), (Value.slice q.eA q.eN q.eC)] :: F) := H12_
  have S16_ := Same.trans S6_ S13_
  refine S_list (T_val (v := (Value.bool (!q9_))) (x_not rfl) ?_)
  refine wpList_nil ?_
  refine (X_then (hK8_ _ _ ?_))
  clear hK8_
  refine C_cond (b := !q9_) rfl (fun c17_t => ?_) (fun c17_f => ?_)
  · skip
    refine C_seq (fun K18_ hK18_ => ?_)
    refine C_reg ?_
    refine S_list (T_val (v := (Value.bool true)) (x_assign rfl) ?_)
    refine wpList_nil ?_
    refine (X_then (hK18_ _ _ ?_))
    clear hK18_
    refine C_ret (X_thenR ?_)
    refine R_any (v := (Value.bool true)) (run_results1 rfl rfl) ?_
    have H19_ : Holds w11_ (ro R :: F) := (Holds.erase (Holds.bring H12_ 0 rfl) 1)
    exact ⟨_, [], rfl, ⟨rfl, rfl⟩, S16_, H19_⟩
  · skip
    refine C_skip (X_then (hK7_ _ _ ?_))
    clear hK7_
    refine C_seq (fun K20_ hK20_ => ?_)
    refine C_seq (fun K21_ hK21_ => ?_)
    refine C_reg ?_
    refine S_list (T_val (v := (Value.agg #[(Value.int .i64 q.kind), (Value.string q.key), (Value.string q.en), (Value.string q.val), (Value.int .i64 q.lease), (Value.int .i64 q.rev), (Value.int .i64 q.limit), (Value.int .i64 q.order), (Value.int .i64 q.target), (Value.int .i64 q.minMod), (Value.int .i64 q.maxMod), (Value.int .i64 q.minCreate), (Value.int .i64 q.maxCreate), (Value.bool q.keysOnly), (Value.bool q.countOnly), (Value.bool q.prev), (Value.bool q.ignValue), (Value.bool q.ignLease), (Value.slice q.cA q.cN q.cC), (Value.slice q.tA q.tN q.tC), (Value.slice q.eA q.eN q.eC)])) (x_loadN (vs := [(Value.int .i64 q.kind), (Value.string q.key), (Value.string q.en), (Value.string q.val), (Value.int .i64 q.lease), (Value.int .i64 q.rev), (Value.int .i64 q.limit), (Value.int .i64 q.order), (Value.int .i64 q.target), (Value.int .i64 q.minMod), (Value.int .i64 q.maxMod), (Value.int .i64 q.minCreate), (Value.int .i64 q.maxCreate), (Value.bool q.keysOnly), (Value.bool q.countOnly), (Value.bool q.prev), (Value.bool q.ignValue), (Value.bool q.ignLease), (Value.slice q.cA q.cN q.cC), (Value.slice q.tA q.tN q.tC), (Value.slice q.eA q.eN q.eC)]) rfl Try.underlying40 rfl z40 rfl (Rd.cells (Holds.rd H12_ 1 rfl) 0 rfl)) ?_)
    refine S_list (T_call (al := [(Value.agg #[(Value.int .i64 q.kind), (Value.string q.key), (Value.string q.en), (Value.string q.val), (Value.int .i64 q.lease), (Value.int .i64 q.rev), (Value.int .i64 q.limit), (Value.int .i64 q.order), (Value.int .i64 q.target), (Value.int .i64 q.minMod), (Value.int .i64 q.maxMod), (Value.int .i64 q.minCreate), (Value.int .i64 q.maxCreate), (Value.bool q.keysOnly), (Value.bool q.countOnly), (Value.bool q.prev), (Value.bool q.ignValue), (Value.bool q.ignLease), (Value.slice q.cA q.cN q.cC), (Value.slice q.tA q.tN q.tC), (Value.slice q.eA q.eN q.eC)]), (Value.int .i64 3)]) (pre := []) (F := cl b2_ 40 [(Value.int .i64 q.kind), (Value.string q.key), (Value.string q.en), (Value.string q.val), (Value.int .i64 q.lease), (Value.int .i64 q.rev), (Value.int .i64 q.limit), (Value.int .i64 q.order), (Value.int .i64 q.target), (Value.int .i64 q.minMod), (Value.int .i64 q.maxMod), (Value.int .i64 q.minCreate), (Value.int .i64 q.maxCreate), (Value.bool q.keysOnly), (Value.bool q.countOnly), (Value.bool q.prev), (Value.bool q.ignValue), (Value.bool q.ignLease), (Value.slice q.cA q.cN q.cC), (Value.slice q.tA q.tN q.tC), (Value.slice q.eA q.eN q.eC)] :: F) rfl rfl cb18 (kGoodStep R q cc tt ee hL 3 (fun x hx => kGoodAll R x (hTt x hx)) (fun x hx => kGoodAll R x (hTe x hx))) H12_ ?_)
    rintro v25_ p26_ w22_ ⟨nG, okG, rfl, hokG, rfl⟩ S24_ H23_
    replace H23_ : Holds w22_ (ro R :: cl b2_ 40 [(Value.int .i64 q.kind), (Value.string q.key), (Value.string q.en), (Value.string q.val), (Value.int .i64 q.lease), (Value.int .i64 q.rev), (Value.int .i64 q.limit), (Value.int .i64 q.order), (Value.int .i64 q.target), (Value.int .i64 q.minMod), (Value.int .i64 q.maxMod), (Value.int .i64 q.minCreate), (Value.int .i64 q.maxCreate), (Value.bool q.keysOnly), (Value.bool q.countOnly), (Value.bool q.prev), (Value.bool q.ignValue), (Value.bool q.ignLease), (Value.slice q.cA q.cN q.cC), (Value.slice q.tA q.tN q.tC), (Value.slice q.eA q.eN q.eC)] :: F) := H23_
    have S27_ := Same.trans S16_ S24_
    refine S_list (T_val (v := (Value.tuple #[(Value.int .i64 nG), (Value.bool okG)])) (x_move rfl) ?_)
    refine S_list (T_val (v := (Value.int .i64 nG)) (by kernel_rfl) ?_)
    refine S_list (T_val (v := (Value.bool okG)) (by kernel_rfl) ?_)
    refine S_list (T_val (v := (Value.int .i64 nG)) (x_assign rfl) ?_)
    refine S_list (T_val (v := (Value.bool okG)) (x_assign rfl) ?_)
    refine wpList_nil ?_
    refine (X_then (hK21_ _ _ ?_))
    clear hK21_
    refine C_seq (fun K28_ hK28_ => ?_)
    refine C_reg ?_
    refine S_list (T_val (v := (Value.pointer (some ⟨b2_, 0, none⟩))) (by kernel_rfl) ?_)
    refine S_list (T_val (v := (Value.int .i64 q.kind)) (x_load1 rfl Try.underlying3 rfl ((Holds.rd H23_ 1 rfl) 0 (Value.int .i64 q.kind) rfl)) ?_)
    refine S_list (T_val (v := (Value.bool (decide (q.kind ≠ 4)))) (x_bin rfl rfl rfl) ?_)
    refine S_list (T_val (v := (Value.bool (decide (q.kind ≠ 4)))) (x_move rfl) ?_)
    rcases Bool.eq_false_or_eq_true (decide (q.kind ≠ 4)) with c29_t | c29_f
    · have c29_tp : q.kind ≠ 4 := of_decide_eq_true c29_t
      refine S_no (j := 3) (dj := 17) (b := true) rfl rfl (congrArg Value.bool c29_t) (by decide) ?_
      refine S_no (j := 3) (dj := 17) (b := true) rfl rfl (congrArg Value.bool c29_t) (by decide) ?_
      refine S_list (T_pickT (v := (Value.bool true)) (congrArg Value.bool c29_t) rfl ?_)
      refine S_list (T_val (v := (Value.bool true)) (x_move rfl) ?_)
      refine S_no (j := 7) (dj := 21) (b := true) rfl rfl rfl (by decide) ?_
      refine S_no (j := 7) (dj := 21) (b := true) rfl rfl rfl (by decide) ?_
      refine S_list (T_pickT (v := (Value.bool true)) rfl rfl ?_)
      refine wpList_nil ?_
      refine (X_then (hK28_ _ _ ?_))
      clear hK28_
      refine C_condT rfl ?_
      refine C_seq (fun K30_ hK30_ => ?_)
      refine C_reg ?_
      refine S_list (T_val (v := (Value.bool true)) (x_assign rfl) ?_)
      refine wpList_nil ?_
      refine (X_then (hK30_ _ _ ?_))
      clear hK30_
      refine C_ret (X_thenR ?_)
      refine R_any (v := (Value.bool true)) (run_results1 rfl rfl) ?_
      have H31_ : Holds w22_ (ro R :: F) := (Holds.erase (Holds.bring H23_ 0 rfl) 1)
      exact ⟨_, [], rfl, ⟨rfl, rfl⟩, S27_, H31_⟩
    · have c29_fp : ¬ (q.kind ≠ 4) := of_decide_eq_false c29_f
      refine S_yes (j := 3) (dj := 17) (b := false) rfl rfl (congrArg Value.bool c29_f) (T_val (v := (Value.bool okG)) (x_move rfl) ?_)
      refine S_yes (j := 3) (dj := 17) (b := false) rfl rfl (congrArg Value.bool c29_f) (T_val (v := (Value.bool (!okG))) (x_not rfl) ?_)
      refine S_list (T_pickF (v := (Value.bool (!okG))) (congrArg Value.bool c29_f) rfl ?_)
      refine S_list (T_val (v := (Value.bool (!okG))) (x_move rfl) ?_)
      rcases Bool.eq_false_or_eq_true (!okG) with c32_t | c32_f
      · skip
        refine S_no (j := 7) (dj := 21) (b := true) rfl rfl (congrArg Value.bool c32_t) (by decide) ?_
        refine S_no (j := 7) (dj := 21) (b := true) rfl rfl (congrArg Value.bool c32_t) (by decide) ?_
        refine S_list (T_pickT (v := (Value.bool true)) (congrArg Value.bool c32_t) rfl ?_)
        refine wpList_nil ?_
        refine (X_then (hK28_ _ _ ?_))
        clear hK28_
        refine C_condT rfl ?_
        refine C_seq (fun K33_ hK33_ => ?_)
        refine C_reg ?_
        refine S_list (T_val (v := (Value.bool true)) (x_assign rfl) ?_)
        refine wpList_nil ?_
        refine (X_then (hK33_ _ _ ?_))
        clear hK33_
        refine C_ret (X_thenR ?_)
        refine R_any (v := (Value.bool true)) (run_results1 rfl rfl) ?_
        have H34_ : Holds w22_ (ro R :: F) := (Holds.erase (Holds.bring H23_ 0 rfl) 1)
        exact ⟨_, [], rfl, ⟨rfl, rfl⟩, S27_, H34_⟩
      · skip
        obtain ⟨-, -, hg4⟩ := hokG (by simpa using c32_f)
        obtain ⟨hb, ht, he⟩ := hg4 (by omega)
        refine S_yes (j := 7) (dj := 21) (b := false) rfl rfl (congrArg Value.bool c32_f) (T_val (v := (Value.int .i64 nG)) (x_move rfl) ?_)
        refine S_yes (j := 7) (dj := 21) (b := false) rfl rfl (congrArg Value.bool c32_f) (T_val (v := (Value.bool (decide (60 < nG)))) (x_bin rfl rfl rfl) ?_)
        refine S_list (T_pickF (v := (Value.bool (decide (60 < nG)))) (congrArg Value.bool c32_f) rfl ?_)
        refine wpList_nil ?_
        refine (X_then (hK28_ _ _ ?_))
        clear hK28_
        refine C_cond (b := decide (60 < nG)) rfl (fun c35_t => ?_) (fun c35_f => ?_)
        · have c35_tp : 60 < nG := of_decide_eq_true c35_t
          refine C_seq (fun K36_ hK36_ => ?_)
          refine C_reg ?_
          refine S_list (T_val (v := (Value.bool true)) (x_assign rfl) ?_)
          refine wpList_nil ?_
          refine (X_then (hK36_ _ _ ?_))
          clear hK36_
          refine C_ret (X_thenR ?_)
          refine R_any (v := (Value.bool true)) (run_results1 rfl rfl) ?_
          have H37_ : Holds w22_ (ro R :: F) := (Holds.erase (Holds.bring H23_ 0 rfl) 1)
          exact ⟨_, [], rfl, ⟨rfl, rfl⟩, S27_, H37_⟩
        · have c35_fp : ¬ (60 < nG) := of_decide_eq_false c35_f
          refine C_skip (X_then (hK20_ _ _ ?_))
          clear hK20_
          refine C_seq (fun K38_ hK38_ => ?_)
          refine C_reg ?_
          refine S_list (T_val (v := (Value.agg #[(Value.int .i64 4), (Value.string ByteArray.empty), (Value.string ByteArray.empty), (Value.string ByteArray.empty), (Value.int .i64 0), (Value.int .i64 0), (Value.int .i64 0), (Value.int .i64 0), (Value.int .i64 0), (Value.int .i64 0), (Value.int .i64 0), (Value.int .i64 0), (Value.int .i64 0), (Value.bool false), (Value.bool false), (Value.bool false), (Value.bool false), (Value.bool false), (Value.slice none 0 0), (Value.slice none 0 0), (Value.slice none 0 0)])) (by kernel_rfl) ?_)
          refine S_list (T_alloc z40 H23_ ?_)
          intro b39_ w40_ S42_ H41_
          replace H41_ : Holds w40_ (cl b39_ 40 [(Value.int .i64 0), (Value.string ByteArray.empty), (Value.string ByteArray.empty), (Value.string ByteArray.empty), (Value.int .i64 0), (Value.int .i64 0), (Value.int .i64 0), (Value.int .i64 0), (Value.int .i64 0), (Value.int .i64 0), (Value.int .i64 0), (Value.int .i64 0), (Value.int .i64 0), (Value.bool false), (Value.bool false), (Value.bool false), (Value.bool false), (Value.bool false), (Value.slice none 0 0), (Value.slice none 0 0), (Value.slice none 0 0)] :: ro R :: cl b2_ 40 [(Value.int .i64 q.kind), (Value.string q.key), (Value.string q.en), (Value.string q.val), (Value.int .i64 q.lease), (Value.int .i64 q.rev), (Value.int .i64 q.limit), (Value.int .i64 q.order), (Value.int .i64 q.target), (Value.int .i64 q.minMod), (Value.int .i64 q.maxMod), (Value.int .i64 q.minCreate), (Value.int .i64 q.maxCreate), (Value.bool q.keysOnly), (Value.bool q.countOnly), (Value.bool q.prev), (Value.bool q.ignValue), (Value.bool q.ignLease), (Value.slice q.cA q.cN q.cC), (Value.slice q.tA q.tN q.tC), (Value.slice q.eA q.eN q.eC)] :: F) := H41_
          have S43_ := Same.trans S27_ S42_
          refine S_list0 (T_storeN (vs := [(Value.int .i64 4), (Value.string ByteArray.empty), (Value.string ByteArray.empty), (Value.string ByteArray.empty), (Value.int .i64 0), (Value.int .i64 0), (Value.int .i64 0), (Value.int .i64 0), (Value.int .i64 0), (Value.int .i64 0), (Value.int .i64 0), (Value.int .i64 0), (Value.int .i64 0), (Value.bool false), (Value.bool false), (Value.bool false), (Value.bool false), (Value.bool false), (Value.slice none 0 0), (Value.slice none 0 0), (Value.slice none 0 0)]) rfl rfl z40 rfl (by simp [Value.oneCell']) H41_ 0 rfl (Nat.le_of_ble_eq_true (by rfl)) ?_)
          intro w44_ S46_ H45_
          replace H45_ : Holds w44_ (cl b39_ 40 [(Value.int .i64 4), (Value.string ByteArray.empty), (Value.string ByteArray.empty), (Value.string ByteArray.empty), (Value.int .i64 0), (Value.int .i64 0), (Value.int .i64 0), (Value.int .i64 0), (Value.int .i64 0), (Value.int .i64 0), (Value.int .i64 0), (Value.int .i64 0), (Value.int .i64 0), (Value.bool false), (Value.bool false), (Value.bool false), (Value.bool false), (Value.bool false), (Value.slice none 0 0), (Value.slice none 0 0), (Value.slice none 0 0)] :: ro R :: cl b2_ 40 [(Value.int .i64 q.kind), (Value.string q.key), (Value.string q.en), (Value.string q.val), (Value.int .i64 q.lease), (Value.int .i64 q.rev), (Value.int .i64 q.limit), (Value.int .i64 q.order), (Value.int .i64 q.target), (Value.int .i64 q.minMod), (Value.int .i64 q.maxMod), (Value.int .i64 q.minCreate), (Value.int .i64 q.maxCreate), (Value.bool q.keysOnly), (Value.bool q.countOnly), (Value.bool q.prev), (Value.bool q.ignValue), (Value.bool q.ignLease), (Value.slice q.cA q.cN q.cC), (Value.slice q.tA q.tN q.tC), (Value.slice q.eA q.eN q.eC)] :: F) := H45_
          have S47_ := Same.trans S43_ S46_
          refine wpList_nil ?_
          refine (X_then (hK38_ _ _ ?_))
          clear hK38_
          refine C_seq (fun K48_ hK48_ => ?_)
          refine A_start (S := fun w => Rd b2_ [(Value.int .i64 q.kind), (Value.string q.key), (Value.string q.en), (Value.string q.val), (Value.int .i64 q.lease), (Value.int .i64 q.rev), (Value.int .i64 q.limit), (Value.int .i64 q.order), (Value.int .i64 q.target), (Value.int .i64 q.minMod), (Value.int .i64 q.maxMod), (Value.int .i64 q.minCreate), (Value.int .i64 q.maxCreate), (Value.bool q.keysOnly), (Value.bool q.countOnly), (Value.bool q.prev), (Value.bool q.ignValue), (Value.bool q.ignLease), (Value.slice q.cA q.cN q.cC), (Value.slice q.tA q.tN q.tC), (Value.slice q.eA q.eN q.eC)] w ∧ Rd b39_ [(Value.int .i64 4), (Value.string ByteArray.empty), (Value.string ByteArray.empty), (Value.string ByteArray.empty), (Value.int .i64 0), (Value.int .i64 0), (Value.int .i64 0), (Value.int .i64 0), (Value.int .i64 0), (Value.int .i64 0), (Value.int .i64 0), (Value.int .i64 0), (Value.int .i64 0), (Value.bool false), (Value.bool false), (Value.bool false), (Value.bool false), (Value.bool false), (Value.slice none 0 0), (Value.slice none 0 0), (Value.slice none 0 0)] w ∧ Sub R (hp w)) (N := 21) foll rfl rfl ?_
          have H50_ : Holds w44_.drew (cl b39_ 40 [(Value.int .i64 4), (Value.string ByteArray.empty), (Value.string ByteArray.empty), (Value.string ByteArray.empty), (Value.int .i64 0), (Value.int .i64 0), (Value.int .i64 0), (Value.int .i64 0), (Value.int .i64 0), (Value.int .i64 0), (Value.int .i64 0), (Value.int .i64 0), (Value.int .i64 0), (Value.bool false), (Value.bool false), (Value.bool false), (Value.bool false), (Value.bool false), (Value.slice none 0 0), (Value.slice none 0 0), (Value.slice none 0 0)] :: ro R :: cl b2_ 40 [(Value.int .i64 q.kind), (Value.string q.key), (Value.string q.en), (Value.string q.val), (Value.int .i64 q.lease), (Value.int .i64 q.rev), (Value.int .i64 q.limit), (Value.int .i64 q.order), (Value.int .i64 q.target), (Value.int .i64 q.minMod), (Value.int .i64 q.maxMod), (Value.int .i64 q.minCreate), (Value.int .i64 q.maxCreate), (Value.bool q.keysOnly), (Value.bool q.countOnly), (Value.bool q.prev), (Value.bool q.ignValue), (Value.bool q.ignLease), (Value.slice q.cA q.cN q.cC), (Value.slice q.tA q.tN q.tC), (Value.slice q.eA q.eN q.eC)] :: F) := H45_
          refine A_take 0 (ls' := #[true, false, false, false, false, false, false, false, false, false, false, false, false, false, false, false, false, false, false, false, false]) (v := (Value.agg #[(Value.int .i64 q.kind), (Value.string q.key), (Value.string q.en), (Value.string q.val), (Value.int .i64 q.lease), (Value.int .i64 q.rev), (Value.int .i64 q.limit), (Value.int .i64 q.order), (Value.int .i64 q.target), (Value.int .i64 q.minMod), (Value.int .i64 q.maxMod), (Value.int .i64 q.minCreate), (Value.int .i64 q.maxCreate), (Value.bool q.keysOnly), (Value.bool q.countOnly), (Value.bool q.prev), (Value.bool q.ignValue), (Value.bool q.ignLease), (Value.slice q.cA q.cN q.cC), (Value.slice q.tA q.tN q.tC), (Value.slice q.eA q.eN q.eC)])) rfl (by kernel_rfl) (by kernel_rfl) (by kernel_rfl) (by kernel_rfl) (fun _ _ _ h => h) (fun w hS => x_loadN (vs := [(Value.int .i64 q.kind), (Value.string q.key), (Value.string q.en), (Value.string q.val), (Value.int .i64 q.lease), (Value.int .i64 q.rev), (Value.int .i64 q.limit), (Value.int .i64 q.order), (Value.int .i64 q.target), (Value.int .i64 q.minMod), (Value.int .i64 q.maxMod), (Value.int .i64 q.minCreate), (Value.int .i64 q.maxCreate), (Value.bool q.keysOnly), (Value.bool q.countOnly), (Value.bool q.prev), (Value.bool q.ignValue), (Value.bool q.ignLease), (Value.slice q.cA q.cN q.cC), (Value.slice q.tA q.tN q.tC), (Value.slice q.eA q.eN q.eC)]) rfl Try.underlying40 rfl z40 rfl (Rd.cells hS.1 0 rfl)) ⟨Holds.rd H50_ 2 rfl, Holds.rd H50_ 0 rfl, Holds.ro_at H50_ 1 rfl⟩ ?_
          refine A_take 2 (ls' := #[true, false, true, false, false, false, false, false, false, false, false, false, false, false, false, false, false, false, false, false, false]) (v := (Value.agg #[(Value.int .i64 q.kind), (Value.string q.key), (Value.string q.en), (Value.string q.val), (Value.int .i64 q.lease), (Value.int .i64 q.rev), (Value.int .i64 q.limit), (Value.int .i64 q.order), (Value.int .i64 q.target), (Value.int .i64 q.minMod), (Value.int .i64 q.maxMod), (Value.int .i64 q.minCreate), (Value.int .i64 q.maxCreate), (Value.bool q.keysOnly), (Value.bool q.countOnly), (Value.bool q.prev), (Value.bool q.ignValue), (Value.bool q.ignLease), (Value.slice q.cA q.cN q.cC), (Value.slice q.tA q.tN q.tC), (Value.slice q.eA q.eN q.eC)])) rfl (by kernel_rfl) (by kernel_rfl) (by kernel_rfl) (by kernel_rfl) (fun _ _ _ h => h) (fun w hS => x_loadN (vs := [(Value.int .i64 q.kind), (Value.string q.key), (Value.string q.en), (Value.string q.val), (Value.int .i64 q.lease), (Value.int .i64 q.rev), (Value.int .i64 q.limit), (Value.int .i64 q.order), (Value.int .i64 q.target), (Value.int .i64 q.minMod), (Value.int .i64 q.maxMod), (Value.int .i64 q.minCreate), (Value.int .i64 q.maxCreate), (Value.bool q.keysOnly), (Value.bool q.countOnly), (Value.bool q.prev), (Value.bool q.ignValue), (Value.bool q.ignLease), (Value.slice q.cA q.cN q.cC), (Value.slice q.tA q.tN q.tC), (Value.slice q.eA q.eN q.eC)]) rfl Try.underlying40 rfl z40 rfl (Rd.cells hS.1 0 rfl)) ⟨Holds.rd H50_ 2 rfl, Holds.rd H50_ 0 rfl, Holds.ro_at H50_ 1 rfl⟩ ?_
          refine A_ready (i := 1) (rs := []) (by kernel_rfl) ?_
          refine AllR.cons ?_ AllR.nil
          have H51_ : Holds w44_.drew (ro R :: cl b39_ 40 [(Value.int .i64 4), (Value.string ByteArray.empty), (Value.string ByteArray.empty), (Value.string ByteArray.empty), (Value.int .i64 0), (Value.int .i64 0), (Value.int .i64 0), (Value.int .i64 0), (Value.int .i64 0), (Value.int .i64 0), (Value.int .i64 0), (Value.int .i64 0), (Value.int .i64 0), (Value.bool false), (Value.bool false), (Value.bool false), (Value.bool false), (Value.bool false), (Value.slice none 0 0), (Value.slice none 0 0), (Value.slice none 0 0)] :: cl b2_ 40 [(Value.int .i64 q.kind), (Value.string q.key), (Value.string q.en), (Value.string q.val), (Value.int .i64 q.lease), (Value.int .i64 q.rev), (Value.int .i64 q.limit), (Value.int .i64 q.order), (Value.int .i64 q.target), (Value.int .i64 q.minMod), (Value.int .i64 q.maxMod), (Value.int .i64 q.minCreate), (Value.int .i64 q.maxCreate), (Value.bool q.keysOnly), (Value.bool q.countOnly), (Value.bool q.prev), (Value.bool q.ignValue), (Value.bool q.ignLease), (Value.slice q.cA q.cN q.cC), (Value.slice q.tA q.tN q.tC), (Value.slice q.eA q.eN q.eC)] :: F) := (Holds.bring H50_ 1 rfl)
          refine A_op (ls' := #[true, true, true, false, false, false, false, false, false, false, false, false, false, false, false, false, false, false, false, false, false]) rfl (by kernel_rfl) (T_call (al := [(Value.agg #[(Value.int .i64 q.kind), (Value.string q.key), (Value.string q.en), (Value.string q.val), (Value.int .i64 q.lease), (Value.int .i64 q.rev), (Value.int .i64 q.limit), (Value.int .i64 q.order), (Value.int .i64 q.target), (Value.int .i64 q.minMod), (Value.int .i64 q.maxMod), (Value.int .i64 q.minCreate), (Value.int .i64 q.maxCreate), (Value.bool q.keysOnly), (Value.bool q.countOnly), (Value.bool q.prev), (Value.bool q.ignValue), (Value.bool q.ignLease), (Value.slice q.cA q.cN q.cC), (Value.slice q.tA q.tN q.tC), (Value.slice q.eA q.eN q.eC)])]) (pre := []) (F := cl b39_ 40 [(Value.int .i64 4), (Value.string ByteArray.empty), (Value.string ByteArray.empty), (Value.string ByteArray.empty), (Value.int .i64 0), (Value.int .i64 0), (Value.int .i64 0), (Value.int .i64 0), (Value.int .i64 0), (Value.int .i64 0), (Value.int .i64 0), (Value.int .i64 0), (Value.int .i64 0), (Value.bool false), (Value.bool false), (Value.bool false), (Value.bool false), (Value.bool false), (Value.slice none 0 0), (Value.slice none 0 0), (Value.slice none 0 0)] :: cl b2_ 40 [(Value.int .i64 q.kind), (Value.string q.key), (Value.string q.en), (Value.string q.val), (Value.int .i64 q.lease), (Value.int .i64 q.rev), (Value.int .i64 q.limit), (Value.int .i64 q.order), (Value.int .i64 q.target), (Value.int .i64 q.minMod), (Value.int .i64 q.maxMod), (Value.int .i64 q.minCreate), (Value.int .i64 q.maxCreate), (Value.bool q.keysOnly), (Value.bool q.countOnly), (Value.bool q.prev), (Value.bool q.ignValue), (Value.bool q.ignLease), (Value.slice q.cA q.cN q.cC), (Value.slice q.tA q.tN q.tC), (Value.slice q.eA q.eN q.eC)] :: F) rfl rfl cb19 (kIsReadonly R q cc tt ee hL hb ht he) H51_ ?_)
          rintro v55_ p56_ w52_ ⟨rfl, rfl⟩ S54_ H53_
          replace H53_ : Holds w52_ (ro R :: cl b39_ 40 [(Value.int .i64 4), (Value.string ByteArray.empty), (Value.string ByteArray.empty), (Value.string ByteArray.empty), (Value.int .i64 0), (Value.int .i64 0), (Value.int .i64 0), (Value.int .i64 0), (Value.int .i64 0), (Value.int .i64 0), (Value.int .i64 0), (Value.int .i64 0), (Value.int .i64 0), (Value.bool false), (Value.bool false), (Value.bool false), (Value.bool false), (Value.bool false), (Value.slice none 0 0), (Value.slice none 0 0), (Value.slice none 0 0)] :: cl b2_ 40 [(Value.int .i64 q.kind), (Value.string q.key), (Value.string q.en), (Value.string q.val), (Value.int .i64 q.lease), (Value.int .i64 q.rev), (Value.int .i64 q.limit), (Value.int .i64 q.order), (Value.int .i64 q.target), (Value.int .i64 q.minMod), (Value.int .i64 q.maxMod), (Value.int .i64 q.minCreate), (Value.int .i64 q.maxCreate), (Value.bool q.keysOnly), (Value.bool q.countOnly), (Value.bool q.prev), (Value.bool q.ignValue), (Value.bool q.ignLease), (Value.slice q.cA q.cN q.cC), (Value.slice q.tA q.tN q.tC), (Value.slice q.eA q.eN q.eC)] :: F) := H53_
          have S57_ := Same.trans (Same.trans S47_ (Same.drew _)) S54_
          refine ⟨⟨Holds.rd H53_ 2 rfl, Holds.rd H53_ 1 rfl, Holds.ro_at H53_ 0 rfl⟩, ?_⟩
          refine A_ready (i := 3) (rs := []) (by kernel_rfl) ?_
          refine AllR.cons ?_ AllR.nil
          refine A_op (ls' := #[true, true, true, true, false, false, false, false, false, false, false, false, false, false, false, false, false, false, false, false, false]) rfl (by kernel_rfl) (T_call (al := [(Value.agg #[(Value.int .i64 q.kind), (Value.string q.key), (Value.string q.en), (Value.string q.val), (Value.int .i64 q.lease), (Value.int .i64 q.rev), (Value.int .i64 q.limit), (Value.int .i64 q.order), (Value.int .i64 q.target), (Value.int .i64 q.minMod), (Value.int .i64 q.maxMod), (Value.int .i64 q.minCreate), (Value.int .i64 q.maxCreate), (Value.bool q.keysOnly), (Value.bool q.countOnly), (Value.bool q.prev), (Value.bool q.ignValue), (Value.bool q.ignLease), (Value.slice q.cA q.cN q.cC), (Value.slice q.tA q.tN q.tC), (Value.slice q.eA q.eN q.eC)])]) (pre := []) (F := cl b39_ 40 [(Value.int .i64 4), (Value.string ByteArray.empty), (Value.string ByteArray.empty), (Value.string ByteArray.empty), (Value.int .i64 0), (Value.int .i64 0), (Value.int .i64 0), (Value.int .i64 0), (Value.int .i64 0), (Value.int .i64 0), (Value.int .i64 0), (Value.int .i64 0), (Value.int .i64 0), (Value.bool false), (Value.bool false), (Value.bool false), (Value.bool false), (Value.bool false), (Value.slice none 0 0), (Value.slice none 0 0), (Value.slice none 0 0)] :: cl b2_ 40 [(Value.int .i64 q.kind), (Value.string q.key), (Value.string q.en), (Value.string q.val), (Value.int .i64 q.lease), (Value.int .i64 q.rev), (Value.int .i64 q.limit), (Value.int .i64 q.order), (Value.int .i64 q.target), (Value.int .i64 q.minMod), (Value.int .i64 q.maxMod), (Value.int .i64 q.minCreate), (Value.int .i64 q.maxCreate), (Value.bool q.keysOnly), (Value.bool q.countOnly), (Value.bool q.prev), (Value.bool q.ignValue), (Value.bool q.ignLease), (Value.slice q.cA q.cN q.cC), (Value.slice q.tA q.tN q.tC), (Value.slice q.eA q.eN q.eC)] :: F) rfl rfl cb20 (kSpecRead R q cc tt ee hL hb ht he) H53_ ?_)
          rintro v61_ p62_ w58_ ⟨rfl, rfl⟩ S60_ H59_
          replace H59_ : Holds w58_ (ro R :: cl b39_ 40 [(Value.int .i64 4), (Value.string ByteArray.empty), (Value.string ByteArray.empty), (Value.string ByteArray.empty), (Value.int .i64 0), (Value.int .i64 0), (Value.int .i64 0), (Value.int .i64 0), (Value.int .i64 0), (Value.int .i64 0), (Value.int .i64 0), (Value.int .i64 0), (Value.int .i64 0), (Value.bool false), (Value.bool false), (Value.bool false), (Value.bool false), (Value.bool false), (Value.slice none 0 0), (Value.slice none 0 0), (Value.slice none 0 0)] :: cl b2_ 40 [(Value.int .i64 q.kind), (Value.string q.key), (Value.string q.en), (Value.string q.val), (Value.int .i64 q.lease), (Value.int .i64 q.rev), (Value.int .i64 q.limit), (Value.int .i64 q.order), (Value.int .i64 q.target), (Value.int .i64 q.minMod), (Value.int .i64 q.maxMod), (Value.int .i64 q.minCreate), (Value.int .i64 q.maxCreate), (Value.bool q.keysOnly), (Value.bool q.countOnly), (Value.bool q.prev), (Value.bool q.ignValue), (Value.bool q.ignLease), (Value.slice q.cA q.cN q.cC), (Value.slice q.tA q.tN q.tC), (Value.slice q.eA q.eN q.eC)] :: F) := H59_
          have S63_ := Same.trans S57_ S60_
          refine ⟨⟨Holds.rd H59_ 2 rfl, Holds.rd H59_ 1 rfl, Holds.ro_at H59_ 0 rfl⟩, ?_⟩
          refine A_take 4 (ls' := #[true, true, true, true, true, false, false, false, false, false, false, false, false, false, false, false, false, false, false, false, false]) (v := (Value.bool true)) rfl (by kernel_rfl) (by kernel_rfl) (by kernel_rfl) (by kernel_rfl) (fun _ _ _ h => h) (fun w hS => x_cast (x_eqB rfl rfl Try.underlying4) (by simp)) ⟨Holds.rd H59_ 2 rfl, Holds.rd H59_ 1 rfl, Holds.ro_at H59_ 0 rfl⟩ ?_
          refine A_take 5 (ls' := #[true, true, true, true, true, true, false, false, false, false, false, false, false, false, false, false, false, false, false, false, false]) (v := (Value.bool true)) rfl (by kernel_rfl) (by kernel_rfl) (by kernel_rfl) (by kernel_rfl) (fun _ _ _ h => h) (fun w hS => x_move rfl) ⟨Holds.rd H59_ 2 rfl, Holds.rd H59_ 1 rfl, Holds.ro_at H59_ 0 rfl⟩ ?_
          refine A_takeYes 6 (ls' := #[true, true, true, true, true, true, true, false, false, false, false, false, false, false, false, false, false, false, false, false, false]) (j := 5) (dj := 31) (b := true) (v := (Value.agg #[(Value.int .i64 q.kind), (Value.string q.key), (Value.string q.en), (Value.string q.val), (Value.int .i64 q.lease), (Value.int .i64 q.rev), (Value.int .i64 q.limit), (Value.int .i64 q.order), (Value.int .i64 q.target), (Value.int .i64 q.minMod), (Value.int .i64 q.maxMod), (Value.int .i64 q.minCreate), (Value.int .i64 q.maxCreate), (Value.bool q.keysOnly), (Value.bool q.countOnly), (Value.bool q.prev), (Value.bool q.ignValue), (Value.bool q.ignLease), (Value.slice q.cA q.cN q.cC), (Value.slice q.tA q.tN q.tC), (Value.slice q.eA q.eN q.eC)])) rfl (by kernel_rfl) (by kernel_rfl) (by kernel_rfl) (by kernel_rfl) (fun _ _ _ h => h) rfl rfl rfl (fun w hS => x_loadN (vs := [(Value.int .i64 q.kind), (Value.string q.key), (Value.string q.en), (Value.string q.val), (Value.int .i64 q.lease), (Value.int .i64 q.rev), (Value.int .i64 q.limit), (Value.int .i64 q.order), (Value.int .i64 q.target), (Value.int .i64 q.minMod), (Value.int .i64 q.maxMod), (Value.int .i64 q.minCreate), (Value.int .i64 q.maxCreate), (Value.bool q.keysOnly), (Value.bool q.countOnly), (Value.bool q.prev), (Value.bool q.ignValue), (Value.bool q.ignLease), (Value.slice q.cA q.cN q.cC), (Value.slice q.tA q.tN q.tC), (Value.slice q.eA q.eN q.eC)]) rfl Try.underlying40 rfl z40 rfl (Rd.cells hS.1 0 rfl)) ⟨Holds.rd H59_ 2 rfl, Holds.rd H59_ 1 rfl, Holds.ro_at H59_ 0 rfl⟩ ?_
          refine A_takeYes 8 (ls' := #[true, true, true, true, true, true, true, false, true, false, false, false, false, false, false, false, false, false, false, false, false]) (j := 5) (dj := 31) (b := true) (v := (Value.agg #[(Value.int .i64 q.kind), (Value.string q.key), (Value.string q.en), (Value.string q.val), (Value.int .i64 q.lease), (Value.int .i64 q.rev), (Value.int .i64 q.limit), (Value.int .i64 q.order), (Value.int .i64 q.target), (Value.int .i64 q.minMod), (Value.int .i64 q.maxMod), (Value.int .i64 q.minCreate), (Value.int .i64 q.maxCreate), (Value.bool q.keysOnly), (Value.bool q.countOnly), (Value.bool q.prev), (Value.bool q.ignValue), (Value.bool q.ignLease), (Value.slice q.cA q.cN q.cC), (Value.slice q.tA q.tN q.tC), (Value.slice q.eA q.eN q.eC)])) rfl (by kernel_rfl) (by kernel_rfl) (by kernel_rfl) (by kernel_rfl) (fun _ _ _ h => h) rfl rfl rfl (fun w hS => x_loadN (vs := [(Value.int .i64 q.kind), (Value.string q.key), (Value.string q.en), (Value.string q.val), (Value.int .i64 q.lease), (Value.int .i64 q.rev), (Value.int .i64 q.limit), (Value.int .i64 q.order), (Value.int .i64 q.target), (Value.int .i64 q.minMod), (Value.int .i64 q.maxMod), (Value.int .i64 q.minCreate), (Value.int .i64 q.maxCreate), (Value.bool q.keysOnly), (Value.bool q.countOnly), (Value.bool q.prev), (Value.bool q.ignValue), (Value.bool q.ignLease), (Value.slice q.cA q.cN q.cC), (Value.slice q.tA q.tN q.tC), (Value.slice q.eA q.eN q.eC)]) rfl Try.underlying40 rfl z40 rfl (Rd.cells hS.1 0 rfl)) ⟨Holds.rd H59_ 2 rfl, Holds.rd H59_ 1 rfl, Holds.ro_at H59_ 0 rfl⟩ ?_
          refine A_ready (i := 7) (rs := []) (by kernel_rfl) ?_
          refine AllR.cons ?_ AllR.nil
          refine A_opYes (ls' := #[true, true, true, true, true, true, true, true, true, false, false, false, false, false, false, false, false, false, false, false, false]) (j := 5) (dj := 31) (b := true) rfl (by kernel_rfl) rfl rfl rfl (T_call (al := [(Value.agg #[(Value.int .i64 q.kind), (Value.string q.key), (Value.string q.en), (Value.string q.val), (Value.int .i64 q.lease), (Value.int .i64 q.rev), (Value.int .i64 q.limit), (Value.int .i64 q.order), (Value.int .i64 q.target), (Value.int .i64 q.minMod), (Value.int .i64 q.maxMod), (Value.int .i64 q.minCreate), (Value.int .i64 q.maxCreate), (Value.bool q.keysOnly), (Value.bool q.countOnly), (Value.bool q.prev), (Value.bool q.ignValue), (Value.bool q.ignLease), (Value.slice q.cA q.cN q.cC), (Value.slice q.tA q.tN q.tC), (Value.slice q.eA q.eN q.eC)])]) (pre := []) (F := cl b39_ 40 [(Value.int .i64 4), (Value.string ByteArray.empty), (Value.string ByteArray.empty), (Value.string ByteArray.empty), (Value.int .i64 0), (Value.int .i64 0), (Value.int .i64 0), (Value.int .i64 0), (Value.int .i64 0), (Value.int .i64 0), (Value.int .i64 0), (Value.int .i64 0), (Value.int .i64 0), (Value.bool false), (Value.bool false), (Value.bool false), (Value.bool false), (Value.bool false), (Value.slice none 0 0), (Value.slice none 0 0), (Value.slice none 0 0)] :: cl b2_ 40 [(Value.int .i64 q.kind), (Value.string q.key), (Value.string q.en), (Value.string q.val), (Value.int .i64 q.lease), (Value.int .i64 q.rev), (Value.int .i64 q.limit), (Value.int .i64 q.order), (Value.int .i64 q.target), (Value.int .i64 q.minMod), (Value.int .i64 q.maxMod), (Value.int .i64 q.minCreate), (Value.int .i64 q.maxCreate), (Value.bool q.keysOnly), (Value.bool q.countOnly), (Value.bool q.prev), (Value.bool q.ignValue), (Value.bool q.ignLease), (Value.slice q.cA q.cN q.cC), (Value.slice q.tA q.tN q.tC), (Value.slice q.eA q.eN q.eC)] :: F) rfl rfl cb21 (kIsSerializable R q cc tt ee hL hb ht he) H59_ ?_)
          rintro v67_ p68_ w64_ ⟨rfl, rfl⟩ S66_ H65_
          replace H65_ : Holds w64_ (ro R :: cl b39_ 40 [(Value.int .i64 4), (Value.string ByteArray.empty), (Value.string ByteArray.empty), (Value.string ByteArray.empty), (Value.int .i64 0), (Value.int .i64 0), (Value.int .i64 0), (Value.int .i64 0), (Value.int .i64 0), (Value.int .i64 0), (Value.int .i64 0), (Value.int .i64 0), (Value.int .i64 0), (Value.bool false), (Value.bool false), (Value.bool false), (Value.bool false), (Value.bool false), (Value.slice none 0 0), (Value.slice none 0 0), (Value.slice none 0 0)] :: cl b2_ 40 [(Value.int .i64 q.kind), (Value.string q.key), (Value.string q.en), (Value.string q.val), (Value.int .i64 q.lease), (Value.int .i64 q.rev), (Value.int .i64 q.limit), (Value.int .i64 q.order), (Value.int .i64 q.target), (Value.int .i64 q.minMod), (Value.int .i64 q.maxMod), (Value.int .i64 q.minCreate), (Value.int .i64 q.maxCreate), (Value.bool q.keysOnly), (Value.bool q.countOnly), (Value.bool q.prev), (Value.bool q.ignValue), (Value.bool q.ignLease), (Value.slice q.cA q.cN q.cC), (Value.slice q.tA q.tN q.tC), (Value.slice q.eA q.eN q.eC)] :: F) := H65_
          have S69_ := Same.trans S63_ S66_
          refine ⟨⟨Holds.rd H65_ 2 rfl, Holds.rd H65_ 1 rfl, Holds.ro_at H65_ 0 rfl⟩, ?_⟩
          refine A_ready (i := 9) (rs := []) (by kernel_rfl) ?_
          refine AllR.cons ?_ AllR.nil
          refine A_opYes (ls' := #[true, true, true, true, true, true, true, true, true, true, false, false, false, false, false, false, false, false, false, false, false]) (j := 5) (dj := 31) (b := true) rfl (by kernel_rfl) rfl rfl rfl (T_call (al := [(Value.agg #[(Value.int .i64 q.kind), (Value.string q.key), (Value.string q.en), (Value.string q.val), (Value.int .i64 q.lease), (Value.int .i64 q.rev), (Value.int .i64 q.limit), (Value.int .i64 q.order), (Value.int .i64 q.target), (Value.int .i64 q.minMod), (Value.int .i64 q.maxMod), (Value.int .i64 q.minCreate), (Value.int .i64 q.maxCreate), (Value.bool q.keysOnly), (Value.bool q.countOnly), (Value.bool q.prev), (Value.bool q.ignValue), (Value.bool q.ignLease), (Value.slice q.cA q.cN q.cC), (Value.slice q.tA q.tN q.tC), (Value.slice q.eA q.eN q.eC)])]) (pre := []) (F := cl b39_ 40 [(Value.int .i64 4), (Value.string ByteArray.empty), (Value.string ByteArray.empty), (Value.string ByteArray.empty), (Value.int .i64 0), (Value.int .i64 0), (Value.int .i64 0), (Value.int .i64 0), (Value.int .i64 0), (Value.int .i64 0), (Value.int .i64 0), (Value.int .i64 0), (Value.int .i64 0), (Value.bool false), (Value.bool false), (Value.bool false), (Value.bool false), (Value.bool false), (Value.slice none 0 0), (Value.slice none 0 0), (Value.slice none 0 0)] :: cl b2_ 40 [(Value.int .i64 q.kind), (Value.string q.key), (Value.string q.en), (Value.string q.val), (Value.int .i64 q.lease), (Value.int .i64 q.rev), (Value.int .i64 q.limit), (Value.int .i64 q.order), (Value.int .i64 q.target), (Value.int .i64 q.minMod), (Value.int .i64 q.maxMod), (Value.int .i64 q.minCreate), (Value.int .i64 q.maxCreate), (Value.bool q.keysOnly), (Value.bool q.countOnly), (Value.bool q.prev), (Value.bool q.ignValue), (Value.bool q.ignLease), (Value.slice q.cA q.cN q.cC), (Value.slice q.tA q.tN q.tC), (Value.slice q.eA q.eN q.eC)] :: F) rfl rfl cb22 (kSpecSer R q cc tt ee hL hb ht he) H65_ ?_)
          rintro v73_ p74_ w70_ ⟨rfl, rfl⟩ S72_ H71_
          replace H71_ : Holds w70_ (ro R :: cl b39_ 40 [(Value.int .i64 4), (Value.string ByteArray.empty), (Value.string ByteArray.empty), (Value.string ByteArray.empty), (Value.int .i64 0), (Value.int .i64 0), (Value.int .i64 0), (Value.int .i64 0), (Value.int .i64 0), (Value.int .i64 0), (Value.int .i64 0), (Value.int .i64 0), (Value.int .i64 0), (Value.bool false), (Value.bool false), (Value.bool false), (Value.bool false), (Value.bool false), (Value.slice none 0 0), (Value.slice none 0 0), (Value.slice none 0 0)] :: cl b2_ 40 [(Value.int .i64 q.kind), (Value.string q.key), (Value.string q.en), (Value.string q.val), (Value.int .i64 q.lease), (Value.int .i64 q.rev), (Value.int .i64 q.limit), (Value.int .i64 q.order), (Value.int .i64 q.target), (Value.int .i64 q.minMod), (Value.int .i64 q.maxMod), (Value.int .i64 q.minCreate), (Value.int .i64 q.maxCreate), (Value.bool q.keysOnly), (Value.bool q.countOnly), (Value.bool q.prev), (Value.bool q.ignValue), (Value.bool q.ignLease), (Value.slice q.cA q.cN q.cC), (Value.slice q.tA q.tN q.tC), (Value.slice q.eA q.eN q.eC)] :: F) := H71_
          have S75_ := Same.trans S69_ S72_
          refine ⟨⟨Holds.rd H71_ 2 rfl, Holds.rd H71_ 1 rfl, Holds.ro_at H71_ 0 rfl⟩, ?_⟩
          refine A_takeYes 10 (ls' := #[true, true, true, true, true, true, true, true, true, true, true, false, false, false, false, false, false, false, false, false, false]) (j := 5) (dj := 31) (b := true) (v := (Value.bool true)) rfl (by kernel_rfl) (by kernel_rfl) (by kernel_rfl) (by kernel_rfl) (fun _ _ _ h => h) rfl rfl rfl (fun w hS => x_cast (x_eqB rfl rfl Try.underlying4) (by simp)) ⟨Holds.rd H71_ 2 rfl, Holds.rd H71_ 1 rfl, Holds.ro_at H71_ 0 rfl⟩ ?_
          refine A_take 11 (ls' := #[true, true, true, true, true, true, true, true, true, true, true, true, false, false, false, false, false, false, false, false, false]) (v := (Value.bool true)) rfl (by kernel_rfl) (by kernel_rfl) (by kernel_rfl) (by kernel_rfl) (fun _ _ _ h => h) (fun w hS => (x_pickT rfl rfl)) ⟨Holds.rd H71_ 2 rfl, Holds.rd H71_ 1 rfl, Holds.ro_at H71_ 0 rfl⟩ ?_
          refine A_take 12 (ls' := #[true, true, true, true, true, true, true, true, true, true, true, true, true, false, false, false, false, false, false, false, false]) (v := (Value.bool true)) rfl (by kernel_rfl) (by kernel_rfl) (by kernel_rfl) (by kernel_rfl) (fun _ _ _ h => h) (fun w hS => x_move rfl) ⟨Holds.rd H71_ 2 rfl, Holds.rd H71_ 1 rfl, Holds.ro_at H71_ 0 rfl⟩ ?_
          refine A_takeYes 13 (ls' := #[true, true, true, true, true, true, true, true, true, true, true, true, true, true, false, false, false, false, false, false, false]) (j := 12) (dj := 38) (b := true) (v := (Value.agg #[(Value.int .i64 4), (Value.string ByteArray.empty), (Value.string ByteArray.empty), (Value.string ByteArray.empty), (Value.int .i64 0), (Value.int .i64 0), (Value.int .i64 0), (Value.int .i64 0), (Value.int .i64 0), (Value.int .i64 0), (Value.int .i64 0), (Value.int .i64 0), (Value.int .i64 0), (Value.bool false), (Value.bool false), (Value.bool false), (Value.bool false), (Value.bool false), (Value.slice none 0 0), (Value.slice none 0 0), (Value.slice none 0 0)])) rfl (by kernel_rfl) (by kernel_rfl) (by kernel_rfl) (by kernel_rfl) (fun _ _ _ h => h) rfl rfl rfl (fun w hS => x_loadN (vs := [(Value.int .i64 4), (Value.string ByteArray.empty), (Value.string ByteArray.empty), (Value.string ByteArray.empty), (Value.int .i64 0), (Value.int .i64 0), (Value.int .i64 0), (Value.int .i64 0), (Value.int .i64 0), (Value.int .i64 0), (Value.int .i64 0), (Value.int .i64 0), (Value.int .i64 0), (Value.bool false), (Value.bool false), (Value.bool false), (Value.bool false), (Value.bool false), (Value.slice none 0 0), (Value.slice none 0 0), (Value.slice none 0 0)]) rfl Try.underlying40 rfl z40 rfl (Rd.cells hS.2.1 0 rfl)) ⟨Holds.rd H71_ 2 rfl, Holds.rd H71_ 1 rfl, Holds.ro_at H71_ 0 rfl⟩ ?_
          refine A_ready (i := 14) (rs := []) (by kernel_rfl) ?_
          refine AllR.cons ?_ AllR.nil
          refine A_opYes (ls' := #[true, true, true, true, true, true, true, true, true, true, true, true, true, true, true, false, false, false, false, false, false]) (j := 12) (dj := 38) (b := true) rfl (by kernel_rfl) rfl rfl rfl (T_call (al := [(Value.agg #[(Value.int .i64 4), (Value.string ByteArray.empty), (Value.string ByteArray.empty), (Value.string ByteArray.empty), (Value.int .i64 0), (Value.int .i64 0), (Value.int .i64 0), (Value.int .i64 0), (Value.int .i64 0), (Value.int .i64 0), (Value.int .i64 0), (Value.int .i64 0), (Value.int .i64 0), (Value.bool false), (Value.bool false), (Value.bool false), (Value.bool false), (Value.bool false), (Value.slice none 0 0), (Value.slice none 0 0), (Value.slice none 0 0)])]) (pre := []) (F := cl b39_ 40 [(Value.int .i64 4), (Value.string ByteArray.empty), (Value.string ByteArray.empty), (Value.string ByteArray.empty), (Value.int .i64 0), (Value.int .i64 0), (Value.int .i64 0), (Value.int .i64 0), (Value.int .i64 0), (Value.int .i64 0), (Value.int .i64 0), (Value.int .i64 0), (Value.int .i64 0), (Value.bool false), (Value.bool false), (Value.bool false), (Value.bool false), (Value.bool false), (Value.slice none 0 0), (Value.slice none 0 0), (Value.slice none 0 0)] :: cl b2_ 40 [(Value.int .i64 q.kind), (Value.string q.key), (Value.string q.en), (Value.string q.val), (Value.int .i64 q.lease), (Value.int .i64 q.rev), (Value.int .i64 q.limit), (Value.int .i64 q.order), (Value.int .i64 q.target), (Value.int .i64 q.minMod), (Value.int .i64 q.maxMod), (Value.int .i64 q.minCreate), (Value.int .i64 q.maxCreate), (Value.bool q.keysOnly), (Value.bool q.countOnly), (Value.bool q.prev), (Value.bool q.ignValue), (Value.bool q.ignLease), (Value.slice q.cA q.cN q.cC), (Value.slice q.tA q.tN q.tC), (Value.slice q.eA q.eN q.eC)] :: F) rfl rfl cb19 (kIsReadonly R (ReqS.mk 4 ByteArray.empty ByteArray.empty ByteArray.empty 0 0 0 0 0 0 0 0 0 false false false false false none 0 0 none 0 0 none 0 0) [] [] [] ⟨RS.nil _ _, RS.nil _ _, RS.nil _ _⟩ ⟨by simp, by simp, by simp⟩ (fun x hx => by cases hx) (fun x hx => by cases hx)) H71_ ?_)
          rintro v79_ p80_ w76_ ⟨rfl, rfl⟩ S78_ H77_
          replace H77_ : Holds w76_ (ro R :: cl b39_ 40 [(Value.int .i64 4), (Value.string ByteArray.empty), (Value.string ByteArray.empty), (Value.string ByteArray.empty), (Value.int .i64 0), (Value.int .i64 0), (Value.int .i64 0), (Value.int .i64 0), (Value.int .i64 0), (Value.int .i64 0), (Value.int .i64 0), (Value.int .i64 0), (Value.int .i64 0), (Value.bool false), (Value.bool false), (Value.bool false), (Value.bool false), (Value.bool false), (Value.slice none 0 0), (Value.slice none 0 0), (Value.slice none 0 0)] :: cl b2_ 40 [(Value.int .i64 q.kind), (Value.string q.key), (Value.string q.en), (Value.string q.val), (Value.int .i64 q.lease), (Value.int .i64 q.rev), (Value.int .i64 q.limit), (Value.int .i64 q.order), (Value.int .i64 q.target), (Value.int .i64 q.minMod), (Value.int .i64 q.maxMod), (Value.int .i64 q.minCreate), (Value.int .i64 q.maxCreate), (Value.bool q.keysOnly), (Value.bool q.countOnly), (Value.bool q.prev), (Value.bool q.ignValue), (Value.bool q.ignLease), (Value.slice q.cA q.cN q.cC), (Value.slice q.tA q.tN q.tC), (Value.slice q.eA q.eN q.eC)] :: F) := H77_
          have S81_ := Same.trans S75_ S78_
          refine ⟨⟨Holds.rd H77_ 2 rfl, Holds.rd H77_ 1 rfl, Holds.ro_at H77_ 0 rfl⟩, ?_⟩
          refine A_take 15 (ls' := #[true, true, true, true, true, true, true, true, true, true, true, true, true, true, true, true, false, false, false, false, false]) (v := (Value.bool true)) rfl (by kernel_rfl) (by kernel_rfl) (by kernel_rfl) (by kernel_rfl) (fun _ _ _ h => h) (fun w hS => (x_pickT rfl rfl)) ⟨Holds.rd H77_ 2 rfl, Holds.rd H77_ 1 rfl, Holds.ro_at H77_ 0 rfl⟩ ?_
          refine A_take 16 (ls' := #[true, true, true, true, true, true, true, true, true, true, true, true, true, true, true, true, true, false, false, false, false]) (v := (Value.bool true)) rfl (by kernel_rfl) (by kernel_rfl) (by kernel_rfl) (by kernel_rfl) (fun _ _ _ h => h) (fun w hS => x_move rfl) ⟨Holds.rd H77_ 2 rfl, Holds.rd H77_ 1 rfl, Holds.ro_at H77_ 0 rfl⟩ ?_
          refine A_takeYes 17 (ls' := #[true, true, true, true, true, true, true, true, true, true, true, true, true, true, true, true, true, true, false, false, false]) (j := 16) (dj := 42) (b := true) (v := (Value.agg #[(Value.int .i64 4), (Value.string ByteArray.empty), (Value.string ByteArray.empty), (Value.string ByteArray.empty), (Value.int .i64 0), (Value.int .i64 0), (Value.int .i64 0), (Value.int .i64 0), (Value.int .i64 0), (Value.int .i64 0), (Value.int .i64 0), (Value.int .i64 0), (Value.int .i64 0), (Value.bool false), (Value.bool false), (Value.bool false), (Value.bool false), (Value.bool false), (Value.slice none 0 0), (Value.slice none 0 0), (Value.slice none 0 0)])) rfl (by kernel_rfl) (by kernel_rfl) (by kernel_rfl) (by kernel_rfl) (fun _ _ _ h => h) rfl rfl rfl (fun w hS => x_loadN (vs := [(Value.int .i64 4), (Value.string ByteArray.empty), (Value.string ByteArray.empty), (Value.string ByteArray.empty), (Value.int .i64 0), (Value.int .i64 0), (Value.int .i64 0), (Value.int .i64 0), (Value.int .i64 0), (Value.int .i64 0), (Value.int .i64 0), (Value.int .i64 0), (Value.int .i64 0), (Value.bool false), (Value.bool false), (Value.bool false), (Value.bool false), (Value.bool false), (Value.slice none 0 0), (Value.slice none 0 0), (Value.slice none 0 0)]) rfl Try.underlying40 rfl z40 rfl (Rd.cells hS.2.1 0 rfl)) ⟨Holds.rd H77_ 2 rfl, Holds.rd H77_ 1 rfl, Holds.ro_at H77_ 0 rfl⟩ ?_
          refine A_ready (i := 18) (rs := []) (by kernel_rfl) ?_
          refine AllR.cons ?_ AllR.nil
          refine A_opYes (ls' := #[true, true, true, true, true, true, true, true, true, true, true, true, true, true, true, true, true, true, true, false, false]) (j := 16) (dj := 42) (b := true) rfl (by kernel_rfl) rfl rfl rfl (T_call (al := [(Value.agg #[(Value.int .i64 4), (Value.string ByteArray.empty), (Value.string ByteArray.empty), (Value.string ByteArray.empty), (Value.int .i64 0), (Value.int .i64 0), (Value.int .i64 0), (Value.int .i64 0), (Value.int .i64 0), (Value.int .i64 0), (Value.int .i64 0), (Value.int .i64 0), (Value.int .i64 0), (Value.bool false), (Value.bool false), (Value.bool false), (Value.bool false), (Value.bool false), (Value.slice none 0 0), (Value.slice none 0 0), (Value.slice none 0 0)])]) (pre := []) (F := cl b39_ 40 [(Value.int .i64 4), (Value.string ByteArray.empty), (Value.string ByteArray.empty), (Value.string ByteArray.empty), (Value.int .i64 0), (Value.int .i64 0), (Value.int .i64 0), (Value.int .i64 0), (Value.int .i64 0), (Value.int .i64 0), (Value.int .i64 0), (Value.int .i64 0), (Value.int .i64 0), (Value.bool false), (Value.bool false), (Value.bool false), (Value.bool false), (Value.bool false), (Value.slice none 0 0), (Value.slice none 0 0), (Value.slice none 0 0)] :: cl b2_ 40 [(Value.int .i64 q.kind), (Value.string q.key), (Value.string q.en), (Value.string q.val), (Value.int .i64 q.lease), (Value.int .i64 q.rev), (Value.int .i64 q.limit), (Value.int .i64 q.order), (Value.int .i64 q.target), (Value.int .i64 q.minMod), (Value.int .i64 q.maxMod), (Value.int .i64 q.minCreate), (Value.int .i64 q.maxCreate), (Value.bool q.keysOnly), (Value.bool q.countOnly), (Value.bool q.prev), (Value.bool q.ignValue), (Value.bool q.ignLease), (Value.slice q.cA q.cN q.cC), (Value.slice q.tA q.tN q.tC), (Value.slice q.eA q.eN q.eC)] :: F) rfl rfl cb21 (kIsSerializable R (ReqS.mk 4 ByteArray.empty ByteArray.empty ByteArray.empty 0 0 0 0 0 0 0 0 0 false false false false false none 0 0 none 0 0 none 0 0) [] [] [] ⟨RS.nil _ _, RS.nil _ _, RS.nil _ _⟩ ⟨by simp, by simp, by simp⟩ (fun x hx => by cases hx) (fun x hx => by cases hx)) H77_ ?_)
          rintro v85_ p86_ w82_ ⟨rfl, rfl⟩ S84_ H83_
          replace H83_ : Holds w82_ (ro R :: cl b39_ 40 [(Value.int .i64 4), (Value.string ByteArray.empty), (Value.string ByteArray.empty), (Value.string ByteArray.empty), (Value.int .i64 0), (Value.int .i64 0), (Value.int .i64 0), (Value.int .i64 0), (Value.int .i64 0), (Value.int .i64 0), (Value.int .i64 0), (Value.int .i64 0), (Value.int .i64 0), (Value.bool false), (Value.bool false), (Value.bool false), (Value.bool false), (Value.bool false), (Value.slice none 0 0), (Value.slice none 0 0), (Value.slice none 0 0)] :: cl b2_ 40 [(Value.int .i64 q.kind), (Value.string q.key), (Value.string q.en), (Value.string q.val), (Value.int .i64 q.lease), (Value.int .i64 q.rev), (Value.int .i64 q.limit), (Value.int .i64 q.order), (Value.int .i64 q.target), (Value.int .i64 q.minMod), (Value.int .i64 q.maxMod), (Value.int .i64 q.minCreate), (Value.int .i64 q.maxCreate), (Value.bool q.keysOnly), (Value.bool q.countOnly), (Value.bool q.prev), (Value.bool q.ignValue), (Value.bool q.ignLease), (Value.slice q.cA q.cN q.cC), (Value.slice q.tA q.tN q.tC), (Value.slice q.eA q.eN q.eC)] :: F) := H83_
          have S87_ := Same.trans S81_ S84_
          refine ⟨⟨Holds.rd H83_ 2 rfl, Holds.rd H83_ 1 rfl, Holds.ro_at H83_ 0 rfl⟩, ?_⟩
          refine A_take 19 (ls' := #[true, true, true, true, true, true, true, true, true, true, true, true, true, true, true, true, true, true, true, true, false]) (v := (Value.bool true)) rfl (by kernel_rfl) (by kernel_rfl) (by kernel_rfl) (by kernel_rfl) (fun _ _ _ h => h) (fun w hS => (x_pickT rfl rfl)) ⟨Holds.rd H83_ 2 rfl, Holds.rd H83_ 1 rfl, Holds.ro_at H83_ 0 rfl⟩ ?_
          refine A_take 20 (ls' := #[true, true, true, true, true, true, true, true, true, true, true, true, true, true, true, true, true, true, true, true, true]) (v := (Value.bool true)) rfl (by kernel_rfl) (by kernel_rfl) (by kernel_rfl) (by kernel_rfl) (fun _ _ _ h => h) (fun w hS => x_assign rfl) ⟨Holds.rd H83_ 2 rfl, Holds.rd H83_ 1 rfl, Holds.ro_at H83_ 0 rfl⟩ ?_
          refine A_done (by kernel_rfl) ?_
          refine (X_then (hK48_ _ _ ?_))
          clear hK48_
          refine C_ret ?_
          refine R_any (v := (Value.bool true)) (run_results1 rfl rfl) ?_
          have H88_ : Holds w82_ (ro R :: F) := (Holds.erase (Holds.erase (Holds.bring H83_ 0 rfl) 1) 1)
          exact ⟨_, [], rfl, ⟨rfl, rfl⟩, S87_, H88_⟩
end Go.Proofs.Ytfdnfnjmphjdnaa
