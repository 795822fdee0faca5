/- What is done with a writer of pages: that it works at all. -/
import Derived.Test.YtfdnfnjmphjdnaaPgG0
set_option linter.unusedVariables false
set_option linter.unusedSimpArgs false
namespace Go.Proofs.Ytfdnfnjmphjdnaa
open Go Go.RowKit Gw

def liveOps : List OpS := [⟨ByteArray.mk #[97, 98, 99], false⟩, ⟨ByteArray.empty, true⟩]
theorem Runs.inv_nil {page wm po0 po : Nat} {an : List AnsS} {wss : List (List (List Int))} {pd : List Int} (h : Runs page wm po0 [] an wss po pd) : an = [] ∧ wss = [] ∧ po = po0 ∧ pd = [] := by
  generalize e : ([] : List OpS) = ops at h
  cases h with
  | nil => exact ⟨rfl, rfl, rfl, rfl⟩
  | snoc h hs => simp at e
theorem Runs.inv_snoc {page wm po0 po : Nat} {ops : List OpS} {op : OpS} {an : List AnsS} {wss : List (List (List Int))} {pd : List Int} (h : Runs page wm po0 (ops ++ [op]) an wss po pd) :
    ∃ an' a wss' ws po' pd', an = an' ++ [a] ∧ wss = wss' ++ [ws] ∧ Runs page wm po0 ops an' wss' po' pd' ∧ PStep page wm po' pd' op a.n po pd ws := by
  generalize e : ops ++ [op] = all at h
  cases h with
  | nil => simp at e
  | @snoc ops' an' wss' po' _ pd' _ op' a ws h hs =>
    obtain ⟨e1, e2⟩ := List.append_inj' e rfl
    cases e2
    subst e1
    exact ⟨an', a, wss', ws, po', pd', rfl, rfl, h, hs⟩
theorem live {an : List AnsS} {wss : List (List (List Int))} {po : Nat} {pd : List Int} (h : Runs 8 64 0 liveOps an wss po pd) :
    ∃ A0 N0 C0 n1 A1 N1 C1, an = [⟨3, A0, N0, C0⟩, ⟨n1, A1, N1, C1⟩] ∧ wss = [[], [ints (ByteArray.mk #[97, 98, 99])]] := by
  obtain ⟨an1, a1, wss1, ws1, po1, pd1, rfl, rfl, h, hs1⟩ := Runs.inv_snoc (ops := [⟨ByteArray.mk #[97, 98, 99], false⟩]) (op := ⟨ByteArray.empty, true⟩) h
  obtain ⟨an0, a0, wss0, ws0, po0, pd0, rfl, rfl, h, hs0⟩ := Runs.inv_snoc (ops := []) (op := ⟨ByteArray.mk #[97, 98, 99], false⟩) h
  obtain ⟨rfl, rfl, rfl, rfl⟩ := h.inv_nil
  have hl : (ints (ByteArray.mk #[97, 98, 99])).length + ([] : List Int).length ≤ 64 := by decide
  rcases hs0 with ⟨hf, _⟩ | ⟨_, hw, hn⟩
  · cases hf
  obtain ⟨rfl, rfl, rfl⟩ := hw.small hl
  have hn := hn hl
  rcases hs1 with ⟨_, _, hf, _⟩ | ⟨hf, _⟩
  · obtain ⟨rfl, -⟩ := hf.some_ (by decide)
    obtain ⟨n0, A0, N0, C0⟩ := a0
    obtain ⟨n1, A1, N1, C1⟩ := a1
    dsimp only at hn
    subst hn
    exact ⟨A0, N0, C0, n1, A1, N1, C1, rfl, rfl⟩
  · cases hf

theorem liveSz (i : Nat) (x : OpS) (hx : liveOps[i]? = some x) : x.text.size ≤ 1048576 := by
  have hm := List.mem_of_getElem? hx
  simp only [liveOps, List.mem_cons, List.not_mem_nil, or_false] at hm
  rcases hm with rfl | rfl <;> decide
theorem cl_RSn {b T k sz cap : Nat} {xs : List Value} {h R : HP} (a : cl b T xs h) (hs : Sub h R) (hl : xs.length = k * sz) (hc : k ≤ cap) : RS R sz (.slice (some ⟨b, 0, none⟩) k cap) k xs :=
  ⟨hl, _, _, rfl, hc, fun _ => ⟨b, 0, rfl, cl_RC a hs⟩⟩

set_option maxHeartbeats 400000 in
theorem pLive (R : HP) :
    Tri Try.prog 28 #[] R [] (fun v post => v = .bool true ∧ post = []) := by
  refine Tri.into (n := 41) (al := []) Try.func28 rfl Try.ntmps28 rfl rfl fun w F H => ?_
  replace H : Holds w (ro R :: F) := H
  refine C_seq (fun K1_ hK1_ => ?_)
  refine C_reg ?_
  refine S_list (T_val (v := (Value.bool false)) (x_assign rfl) ?_)
  refine wpList_nil ?_
  refine (X_then (hK1_ _ _ ?_))
  clear hK1_
  refine C_seq (fun K2_ hK2_ => ?_)
  refine C_reg ?_
  refine S_list (T_val (v := (Value.agg #[(Value.string (ByteArray.mk #[97, 98, 99])), (Value.bool false)])) (by kernel_rfl) ?_)
  refine S_list (T_val (v := (Value.agg #[(Value.string ByteArray.empty), (Value.bool true)])) (by kernel_rfl) ?_)
  refine S_list (T_new (obj := .cells #[(Value.string (ByteArray.mk #[97, 98, 99])), (Value.bool false), (Value.string ByteArray.empty), (Value.bool true)] 59) (f := fun b => .slice (some ⟨b, 0, none⟩) 2 2) (A := fun b => cl b 59 [(Value.string (ByteArray.mk #[97, 98, 99])), (Value.bool false), (Value.string ByteArray.empty), (Value.bool true)]) (by kernel_rfl) (fun l h => h.alloc _ _) H ?_)
  intro b3_ w4_ S6_ H5_
  replace H5_ : Holds w4_ (cl b3_ 59 [(Value.string (ByteArray.mk #[97, 98, 99])), (Value.bool false), (Value.string ByteArray.empty), (Value.bool true)] :: ro R :: F) := H5_
  have S7_ := Same.trans (Same.refl w) S6_
  obtain ⟨R8_, a9_, H10_⟩ := Holds.freeze H5_ 0 rfl
  replace H10_ : Holds w4_ (ro R8_ :: ro R :: F) := H10_
  have hsl : RS R8_ 2 (Value.slice (some ⟨b3_, 0, none⟩) 2 2) 2 (liveOps.flatMap OpS.cells) := cl_RSn (sz := 2) (k := 2) a9_ (Sub.rfl' _) (by rfl) (by omega)
  refine S_list (T_call (al := [(Value.int .i64 64), (Value.int .i64 8), (Value.int .i64 0), (Value.slice (some ⟨b3_, 0, none⟩) 2 2)]) (pre := []) (F := ro R :: F) rfl rfl cb29 (kPages R8_ 64 8 0 (Value.slice (some ⟨b3_, 0, none⟩) 2 2) liveOps hsl (by omega) (by omega) (by omega) (by omega) (by omega) (by decide) (fun i x hx => liveSz i x hx)) H10_ ?_)
  rintro v15_ p16_ w12_ ⟨R1, an, wss, po, pd, hr, hruns, hans, rfl⟩ S14_ H13_
  replace H13_ : Holds w12_ (ro R8_ :: ro R1 :: ro R :: F) := H13_
  have S17_ := Same.trans S7_ S14_
  obtain ⟨A0, N0, C0, n1, A1, N1, C1, rfl, rfl⟩ := live hruns
  have hw0 : RS R1 1 (.slice A0 N0 C0) 0 [] := hans.2 0 _ _ rfl rfl
  have hw1 : RS R1 1 (.slice A1 N1 C1) 1 [.string (ByteArray.mk #[97, 98, 99])] := by have := hans.2 1 _ _ rfl rfl; rw [show strs [ints (ByteArray.mk #[97, 98, 99])] = [.string (ByteArray.mk #[97, 98, 99])] by kernel_rfl] at this; exact this
  replace hr : RS R1 2 _ 2 _ := hr
  refine S_list (T_val (v := v15_) (x_assign rfl) ?_)
  refine wpList_nil ?_
  refine (X_then (hK2_ _ _ ?_))
  clear hK2_
  refine C_seq (fun K18_ hK18_ => ?_)
  refine C_reg ?_
  refine S_list (T_val (v := v15_) (x_move rfl) ?_)
  refine S_list (T_val (v := (Value.int .i64 2)) (x_lenRS rfl hr Try.underlying53) ?_)
  refine S_list (T_val (v := (Value.bool true)) (x_bin rfl rfl rfl) ?_)
  refine S_list (T_val (v := (Value.bool true)) (x_move rfl) ?_)
  refine S_yes (j := 3) (dj := 9) (b := true) rfl rfl rfl (T_val (v := v15_) (x_move rfl) ?_)
  refine S_yes (j := 3) (dj := 9) (b := true) rfl rfl rfl (T_val (v := (Value.pointer (some ⟨(sb v15_), so v15_ + (0 + 0), none⟩))) (x_idxRS (v := v15_) rfl hr rfl Try.underlying53 z57 (by omega) (by omega) (by omega : _ = 0) rfl) ?_)
  refine S_yes (j := 3) (dj := 9) (b := true) rfl rfl rfl (T_val (v := (Value.pointer (some ⟨(sb v15_), so v15_ + (0 + 0), none⟩))) (by kernel_rfl) ?_)
  refine S_yes (j := 3) (dj := 9) (b := true) rfl rfl rfl (T_val (v := (Value.int .i64 3)) (x_load1 rfl Try.underlying3 rfl (RC.cell (RS.rc hr) (Holds.ro_at H13_ 1 rfl) (j := 0 + 0) (u := (Value.int .i64 3)) (fm_cell AnsS.len (rfl : [(⟨3, A0, N0, C0⟩ : AnsS), ⟨n1, A1, N1, C1⟩][0]? = some _) (i := 0) rfl))) ?_)
  refine S_yes (j := 3) (dj := 9) (b := true) rfl rfl rfl (T_val (v := (Value.bool true)) (x_bin rfl rfl rfl) ?_)
  refine S_list (T_pickT (v := (Value.bool true)) rfl rfl ?_)
  refine S_list (T_val (v := (Value.bool true)) (x_move rfl) ?_)
  refine S_yes (j := 10) (dj := 16) (b := true) rfl rfl rfl (T_val (v := v15_) (x_move rfl) ?_)
  refine S_yes (j := 10) (dj := 16) (b := true) rfl rfl rfl (T_val (v := (Value.pointer (some ⟨(sb v15_), so v15_ + (0 + 0), none⟩))) (x_idxRS (v := v15_) rfl hr rfl Try.underlying53 z57 (by omega) (by omega) (by omega : _ = 0) rfl) ?_)
  refine S_yes (j := 10) (dj := 16) (b := true) rfl rfl rfl (T_val (v := (Value.pointer (some ⟨(sb v15_), so v15_ + (0 + 1), none⟩))) (by kernel_rfl) ?_)
  refine S_yes (j := 10) (dj := 16) (b := true) rfl rfl rfl (T_val (v := (Value.slice A0 N0 C0)) (x_load1 rfl Try.underlying55 rfl (RC.cell (RS.rc hr) (Holds.ro_at H13_ 1 rfl) (j := 0 + 1) (u := (Value.slice A0 N0 C0)) (fm_cell AnsS.len (rfl : [(⟨3, A0, N0, C0⟩ : AnsS), ⟨n1, A1, N1, C1⟩][0]? = some _) (i := 1) rfl))) ?_)
  refine S_yes (j := 10) (dj := 16) (b := true) rfl rfl rfl (T_val (v := (Value.int .i64 0)) (x_lenRS rfl hw0 Try.underlying55) ?_)
  refine S_yes (j := 10) (dj := 16) (b := true) rfl rfl rfl (T_val (v := (Value.bool true)) (x_bin rfl rfl rfl) ?_)
  refine S_list (T_pickT (v := (Value.bool true)) rfl rfl ?_)
  refine S_list (T_val (v := (Value.bool true)) (x_move rfl) ?_)
  refine S_yes (j := 18) (dj := 24) (b := true) rfl rfl rfl (T_val (v := v15_) (x_move rfl) ?_)
  refine S_yes (j := 18) (dj := 24) (b := true) rfl rfl rfl (T_val (v := (Value.pointer (some ⟨(sb v15_), so v15_ + (2 + 0), none⟩))) (x_idxRS (v := v15_) rfl hr rfl Try.underlying53 z57 (by omega) (by omega) (by omega : _ = 1) rfl) ?_)
  refine S_yes (j := 18) (dj := 24) (b := true) rfl rfl rfl (T_val (v := (Value.pointer (some ⟨(sb v15_), so v15_ + (2 + 1), none⟩))) (by kernel_rfl) ?_)
  refine S_yes (j := 18) (dj := 24) (b := true) rfl rfl rfl (T_val (v := (Value.slice A1 N1 C1)) (x_load1 rfl Try.underlying55 rfl (RC.cell (RS.rc hr) (Holds.ro_at H13_ 1 rfl) (j := 2 + 1) (u := (Value.slice A1 N1 C1)) (fm_cell AnsS.len (rfl : [(⟨3, A0, N0, C0⟩ : AnsS), ⟨n1, A1, N1, C1⟩][1]? = some _) (i := 1) rfl))) ?_)
  refine S_yes (j := 18) (dj := 24) (b := true) rfl rfl rfl (T_val (v := (Value.int .i64 1)) (x_lenRS rfl hw1 Try.underlying55) ?_)
  refine S_yes (j := 18) (dj := 24) (b := true) rfl rfl rfl (T_val (v := (Value.bool true)) (x_bin rfl rfl rfl) ?_)
  refine S_list (T_pickT (v := (Value.bool true)) rfl rfl ?_)
  refine S_list (T_val (v := (Value.bool true)) (x_move rfl) ?_)
  refine S_yes (j := 26) (dj := 32) (b := true) rfl rfl rfl (T_val (v := v15_) (x_move rfl) ?_)
  refine S_yes (j := 26) (dj := 32) (b := true) rfl rfl rfl (T_val (v := (Value.pointer (some ⟨(sb v15_), so v15_ + (2 + 0), none⟩))) (x_idxRS (v := v15_) rfl hr rfl Try.underlying53 z57 (by omega) (by omega) (by omega : _ = 1) rfl) ?_)
  refine S_yes (j := 26) (dj := 32) (b := true) rfl rfl rfl (T_val (v := (Value.pointer (some ⟨(sb v15_), so v15_ + (2 + 1), none⟩))) (by kernel_rfl) ?_)
  refine S_yes (j := 26) (dj := 32) (b := true) rfl rfl rfl (T_val (v := (Value.slice A1 N1 C1)) (x_load1 rfl Try.underlying55 rfl (RC.cell (RS.rc hr) (Holds.ro_at H13_ 1 rfl) (j := 2 + 1) (u := (Value.slice A1 N1 C1)) (fm_cell AnsS.len (rfl : [(⟨3, A0, N0, C0⟩ : AnsS), ⟨n1, A1, N1, C1⟩][1]? = some _) (i := 1) rfl))) ?_)
  refine S_yes (j := 26) (dj := 32) (b := true) rfl rfl rfl (T_val (v := (Value.pointer (some ⟨(sb (Value.slice A1 N1 C1)), so (Value.slice A1 N1 C1) + 0, none⟩))) (x_idxRS (v := (Value.slice A1 N1 C1)) rfl hw1 rfl Try.underlying55 z9 (by omega) (by omega) (by omega : _ = 0) (by rw [Nat.mul_one])) ?_)
  refine S_yes (j := 26) (dj := 32) (b := true) rfl rfl rfl (T_val (v := (Value.string (ByteArray.mk #[97, 98, 99]))) (x_load1 rfl Try.underlying9 rfl (RC.cell (RS.rc hw1) (Holds.ro_at H13_ 1 rfl) (j := 0) (u := (Value.string (ByteArray.mk #[97, 98, 99]))) ((rfl : [Value.string (ByteArray.mk #[97, 98, 99])][0]? = some _)))) ?_)
  refine S_yes (j := 26) (dj := 32) (b := true) rfl rfl rfl (T_val (v := (Value.bool ((ByteArray.mk #[97, 98, 99]).toList == (ByteArray.mk #[97, 98, 99]).toList))) (x_str rfl rfl rfl (by decide)) ?_)
  refine S_list (T_pickT (v := (Value.bool ((ByteArray.mk #[97, 98, 99]).toList == (ByteArray.mk #[97, 98, 99]).toList))) rfl rfl ?_)
  refine S_list (T_val (v := (Value.bool ((ByteArray.mk #[97, 98, 99]).toList == (ByteArray.mk #[97, 98, 99]).toList))) (x_assign rfl) ?_)
  refine wpList_nil ?_
  refine (X_then (hK18_ _ _ ?_))
  clear hK18_
  refine C_ret ?_
  refine R_any (v := (Value.bool ((ByteArray.mk #[97, 98, 99]).toList == (ByteArray.mk #[97, 98, 99]).toList))) (run_results1 rfl rfl) ?_
  have H19_ : Holds w12_ (ro R :: F) := (Holds.erase (Holds.erase (Holds.bring H13_ 2 rfl) 1) 1)
  exact ⟨_, [], rfl, ⟨congrArg Value.bool (beq_self_eq_true _), rfl⟩, S17_, H19_⟩
end Go.Proofs.Ytfdnfnjmphjdnaa
