/- Words, and proved steps, on which the proof leans. -/
import Derived.Maps.RangeRun
import Derived.Test.YtiblemgccgbhoaaGo4
set_option linter.unusedVariables false
set_option linter.unusedSimpArgs false
set_option linter.unusedSectionVars false
namespace Go.Proofs.Ytiblemgccgbhoaa.Gw
open Go Go.RowKit
section
variable {α : Type} [DecidableEq α]
/-- A map, and one that walks over it: 'left' is still to come, 'cur' came last. -/
def rg (K : α → Value) (b r : Nat) (m left : List (α × Value)) (cur : Option (α × Value)) : SP := fun h => ∃ (es : Array MapEntry) (clock since : Nat) (seen : Array Nat),
  h b = some (.map es clock) ∧ h r = some (.mapIter (some b) since seen clock) ∧ es.toList.map (fun e => (e.key, e.val)) = m.map (fun p => (K p.1, p.2)) ∧ Born es.toList clock ∧
  (∀ x ∈ es.toList, x.born < since) ∧ since ≤ clock ∧ (es.toList.filter (fun e => !seen.contains e.born)).map (fun e => (e.key, e.val)) = left.map (fun p => (K p.1, p.2)) ∧
  (∀ p, cur = some p → ∃ e ∈ es.toList, ∃ s' : Array Nat, seen = s'.push e.born ∧ e.key = K p.1 ∧ e.val = p.2)
variable {P : Program} {w : World} {l : List SP} {n : Nat} {e : Env} {K' : Value → World → Prop} {d : Option Nat} {ty : TypeId} {pos : String} {af : Array Edge} {g : Option (Nat × Bool)}
theorem filter_ne {L : List MapEntry} (hp : L.Pairwise fun a b => a.born ≠ b.born) {A B : List MapEntry} {e : MapEntry} (h : L = A ++ e :: B) : L.filter (fun x => !(x.born == e.born)) = A ++ B := by
  subst h
  rw [List.pairwise_append, List.pairwise_cons] at hp
  obtain ⟨_, ⟨h2, _⟩, h3⟩ := hp
  have hA : A.filter (fun x => !(x.born == e.born)) = A := List.filter_eq_self.2 fun x hx => by simpa using h3 x hx e (by simp)
  have hB : B.filter (fun x => !(x.born == e.born)) = B := List.filter_eq_self.2 fun x hx => by simpa using (h2 x hx).symm
  rw [List.filter_append, List.filter_cons, hA, hB]
  simp
theorem contains_push' (s : Array Nat) (a x : Nat) : (s.push a).contains x = (s.contains x || x == a) := by
  rw [Bool.eq_iff_iff]
  simp [Array.mem_push]
theorem map_split {β γ δ : Type} {f : β → δ} {k : γ → δ} : ∀ {A : List β} {x : β} {B : List β} {l : List γ}, (A ++ x :: B).map f = l.map k → ∃ l1 y l2, l = l1 ++ y :: l2 ∧ A.map f = l1.map k ∧ f x = k y ∧ B.map f = l2.map k
  | [], x, B, l, h => by
    cases l with
    | nil => simp at h
    | cons y l => simp only [List.nil_append, List.map_cons, List.cons.injEq] at h; exact ⟨[], y, l, rfl, rfl, h.1, h.2⟩
  | a :: A, x, B, l, h => by
    cases l with
    | nil => simp at h
    | cons y l =>
      simp only [List.cons_append, List.map_cons, List.cons.injEq] at h
      obtain ⟨l1, z, l2, e1, e2, e3, e4⟩ := map_split h.2
      exact ⟨y :: l1, z, l2, by rw [e1]; rfl, by simp [h.1, e2], e3, e4⟩
theorem T_range {K : α → Value} {t k el : TypeId} {x : Operand} {b : Nat} {m : List (α × Value)} (hx : ev n e x = .map (some b)) (ht : P.underlying t = some (.map k el)) (h : Holds w l) (i : Nat) (hi : l[i]? = some (mp K b m))
    (c : ∀ r w', Same w w' → Holds w' (l.set i (rg K b r m m none)) → K' (.pointer (some ⟨r, 0, none⟩)) w') : Stp P n e ⟨d, .range t x, ty, pos, af, g⟩ w K' := by
  obtain ⟨es, clock, hb, he, hbo⟩ := h.mp_block i hi
  refine .inl ⟨_, _, ?_, c w.heap.size _ (Same.alloc w (.mapIter (some b) clock #[] clock)) ?_⟩
  · simp only [execOp, hx]
    simp [run_range_map w t k el b es clock ht hb]
  · have h1 := h.allocOb (.mapIter (some b) clock #[] clock)
    have h2 : Holds (w.alloc (.mapIter (some b) clock #[] clock)) (mp K b m :: ob w.heap.size (.mapIter (some b) clock #[] clock) :: l.eraseIdx i) := h1.bring (i + 1) hi
    obtain ⟨g1, g2, s1, s2, d1, ⟨es1, clock1, a1, a2, a3⟩, g3, g4, s3, s4, d3, a4, rest⟩ := h2
    have e1 : (w.alloc (.mapIter (some b) clock #[] clock)).heap[b]? = some (.map es1 clock1) := s1 _ _ a1
    have hlt : b < w.heap.size := by
      rcases Nat.lt_or_ge b w.heap.size with x | x
      · exact x
      · rw [Array.getElem?_eq_none x] at hb; cases hb
    have e0 : (w.alloc (.mapIter (some b) clock #[] clock)).heap[b]? = w.heap[b]? := by
      show (w.heap.push _)[b]? = _
      rw [Array.getElem?_push, if_neg (by omega)]
    rw [e0, hb] at e1
    cases e1
    have hil : i < l.length := (List.getElem?_eq_some_iff.1 hi).1
    refine Sat.back i (A := rg K b w.heap.size m m none) (by simp [hil]) ?_
    rw [List.eraseIdx_set_eq]
    refine ⟨un g1 g3, g4, Sub.un_lub s1 (s3.trans' s2), s4.trans' s2, Dis.un_left (d1.sub_right s4) d3, ?_, rest⟩
    exact ⟨es, clock, clock, #[], Sub.un_left _ _ _ _ a1, Sub.un_right (d1.sub_right s3) _ _ a4, a2, a3, a3.1, Nat.le_refl _, by rw [← a2]; congr 1; exact List.filter_eq_self.2 fun _ _ => by simp, fun p hp => by cases hp⟩
theorem T_next {K : α → Value} {x : Operand} {b r : Nat} {m left : List (α × Value)} {cur : Option (α × Value)} (hx : ev n e x = .pointer (some ⟨r, 0, none⟩)) (h : Holds w l) (i : Nat) (hi : l[i]? = some (rg K b r m left cur))
    (c0 : left = [] → K' (.tuple #[.bool false]) w)
    (c1 : ∀ p l1 l2, left = l1 ++ p :: l2 → ∀ w', Same w w' → Holds w' (l.set i (rg K b r m (l1 ++ l2) (some p))) → K' (.tuple #[.bool true, K p.1, p.2]) w') : Stp P n e ⟨d, .next x false, ty, pos, af, g⟩ w K' := by
  obtain ⟨h', s, es, clock, since, seen, hb, hr, hm, hbo, hold, hsc, hl, hc⟩ := Sat.at i hi h
  have hne : b ≠ r := by rintro rfl; rw [hb] at hr; cases hr
  rcases run_next_at (P := P) w ty r b since clock seen es clock (s _ _ hr) (s _ _ hb) hold hsc with ⟨h0, hrun⟩ | ⟨q, hq, w1, hal, hrun⟩
  · refine .inl ⟨_, _, ?_, c0 ?_⟩
    · simp only [execOp, hx]; simp [hrun]
    · have h1 : leftOf es seen = #[] := Array.eq_empty_of_size_eq_zero h0
      have h2 : es.toList.filter (fun e => !seen.contains e.born) = [] := by
        have := congrArg Array.toList h1
        simpa [leftOf] using this
      rw [h2] at hl
      cases left with
      | nil => rfl
      | cons _ _ => simp at hl
  · have hq' : q ∈ es.toList.filter (fun e => !seen.contains e.born) := by simpa [leftOf] using hq
    obtain ⟨A, B, hAB⟩ := List.append_of_mem hq'
    rw [hAB] at hl
    obtain ⟨l1, p, l2, e1, e2, e3, e4⟩ := map_split hl
    obtain ⟨ek, evl⟩ := Prod.mk.inj e3
    have hw1 : Holds w1 l := by rcases hal with rfl | rfl <;> exact h
    have hs1 : Same w w1 := by
      rcases hal with rfl | rfl
      · exact Same.refl _
      · exact Same.drew _
    have hr1 : w1.heap[r]? = some (.mapIter (some b) since seen clock) := by
      have := s _ _ hr
      rcases hal with rfl | rfl <;> exact this
    refine .inl ⟨_, _, ?_, c1 p l1 l2 e1 (ChangeMaps.setBlock w1 r (.mapIter (some b) since (seen.push q.born) clock)) (hs1.trans ⟨rfl, rfl, rfl⟩) ?_⟩
    · simp only [execOp, hx]; simp [hrun, ek, evl]
    · have hrs : r < w1.heap.size := by
        rcases Nat.lt_or_ge r w1.heap.size with x | x
        · exact x
        · rw [Array.getElem?_eq_none x] at hr1; cases hr1
      have hu : hp (ChangeMaps.setBlock w1 r (.mapIter (some b) since (seen.push q.born) clock)) = upb (hp w1) r (.mapIter (some b) since (seen.push q.born) clock) := by
        refine hp_setBlock _ _ _ _ (by simp [ChangeMaps.setBlock, hrs]) (fun c hc => by simp [ChangeMaps.setBlock, Ne.symm hc])
      unfold Holds
      rw [hu]
      refine Sat.set i hi hw1 fun h k s t d a => ?_
      obtain ⟨es1, clock1, since1, seen1, hb1, hr2, _, _, _, _, _, _⟩ := a
      have q1 : some (Obj.map es clock) = some (.map es1 clock1) := by
        have x1 : w1.heap[b]? = some (.map es1 clock1) := s _ _ hb1
        have x2 : w1.heap[b]? = some (.map es clock) := by
          have := ‹Sub h' (hp w)› _ _ hb
          rcases hal with rfl | rfl <;> exact this
        rw [← x1, ← x2]
      cases q1
      refine ⟨upb h r (.mapIter (some b) since (seen.push q.born) clock), ?_, ?_, ?_, ⟨es, clock, since, seen.push q.born, ?_, by simp [upb], hm, hbo, hold, hsc, ?_, fun p' hp' => ?_⟩⟩
      · intro c x hcx
        unfold upb at hcx ⊢
        split
        · rename_i hc; rw [if_pos hc] at hcx; exact hcx
        · rename_i hc; rw [if_neg hc] at hcx; exact s c x hcx
      · intro c x hcx
        unfold upb
        split
        · rename_i hc
          subst hc
          rcases d c with z | z
          · rw [z] at hr2; cases hr2
          · rw [z] at hcx; cases hcx
        · exact t c x hcx
      · intro c
        unfold upb
        split
        · rename_i hc
          subst hc
          rcases d c with z | z
          · rw [z] at hr2; cases hr2
          · exact .inr z
        · exact d c
      · show upb h r _ b = _
        unfold upb; rw [if_neg hne]; exact hb1
      · have hf : es.toList.filter (fun e => !(seen.push q.born).contains e.born) = A ++ B := by
          rw [← filter_ne (L := es.toList.filter (fun e => !seen.contains e.born)) (hbo.2.sublist List.filter_sublist) hAB, List.filter_filter]
          refine List.filter_congr fun x _ => ?_
          rw [contains_push']
          cases seen.contains x.born <;> cases x.born == q.born <;> rfl
        rw [hf, List.map_append, e2, e4, List.map_append]
      · cases hp'
        exact ⟨q, (List.mem_filter.1 hq').1, seen, rfl, ek, evl⟩
theorem T_entry {K : α → Value} {x : Operand} {b r : Nat} {m left : List (α × Value)} {p : α × Value} (hx : ev n e x = .pointer (some ⟨r, 0, none⟩)) (h : Holds w l) (i : Nat) (hi : l[i]? = some (rg K b r m left (some p)))
    (c : K' (.tuple #[K p.1, p.2]) w) : Stp P n e ⟨d, .entry x, ty, pos, af, g⟩ w K' := by
  obtain ⟨h', s, es, clock, since, seen, hb, hr, hm, hbo, hold, hsc, hl, hc⟩ := Sat.at i hi h
  obtain ⟨q, hq, s', rfl, ek, evl⟩ := hc p rfl
  have hn : (es.toList.map (·.born)).Nodup := List.pairwise_map.2 hbo.2
  refine .inl ⟨_, _, ?_, c⟩
  simp only [execOp, hx]
  simp [run_entry_at w r b since s' es clock q (s _ _ hr) (s _ _ hb) hq hn, ek, evl]
/-! ### The end of a slice -/
theorem fm_dropk {β : Type} {F : β → List Value} {n : Nat} (hn : ∀ x, (F x).length = n) : ∀ (L : List β) (k : Nat), (L.flatMap F).drop (k * n) = (L.drop k).flatMap F
  | [], k => by simp
  | x :: L, 0 => by simp
  | x :: L, k + 1 => by
    rw [List.flatMap_cons, Nat.succ_mul, List.drop_append, List.drop_eq_nil_of_le (by rw [hn]; omega), List.nil_append, hn, Nat.add_sub_cancel, fm_dropk hn L k, List.drop_succ_cons]
theorem fm_takek {β : Type} {F : β → List Value} {n : Nat} (hn : ∀ x, (F x).length = n) : ∀ (L : List β) (k : Nat), (L.flatMap F).take (k * n) = (L.take k).flatMap F
  | [], k => by simp
  | x :: L, 0 => by simp
  | x :: L, k + 1 => by
    rw [List.flatMap_cons, Nat.succ_mul, List.take_append, List.take_of_length_le (by rw [hn]; omega), hn, Nat.add_sub_cancel, fm_takek hn L k, List.take_succ_cons, List.flatMap_cons]
theorem RS.slcF {β : Type} {F : β → List Value} {n a b : Nat} (hn : ∀ x, (F x).length = n) {R : HP} {v : Value} {L : List β} (h : RS R n v L.length (L.flatMap F)) (h1 : a ≤ b) (h2 : b ≤ L.length) : RS R n (Gw.slc v a b n) ((L.drop a).take (b - a)).length (((L.drop a).take (b - a)).flatMap F) := by
  have := h.slc h1 h2
  rw [fm_dropk hn, fm_takek hn] at this
  rwa [List.length_take, List.length_drop, Nat.min_eq_left (by omega)]
theorem RS.slcD {β : Type} {F : β → List Value} {n a : Nat} (hn : ∀ x, (F x).length = n) {R : HP} {v : Value} {L : List β} (h : RS R n v L.length (L.flatMap F)) (h1 : a ≤ L.length) : RS R n (Gw.slc v a L.length n) (L.drop a).length ((L.drop a).flatMap F) := by
  have := RS.slcF hn h h1 (Nat.le_refl _)
  rwa [List.take_of_length_le (by rw [List.length_drop]; omega)] at this
theorem Holds.sl_drop {T sz m k : Nat} {v : Value} {xs : List Value} (h : Holds w l) (i : Nat) (hi : l[i]? = some (sl T sz v m xs)) (hk : k < m) : Holds w (l.set i (sl T sz (slc v k m sz) (m - k) (xs.drop (k * sz)))) := by
  refine h.map_at i hi fun h' a => ?_
  rcases a with ⟨rfl, rfl, rfl⟩ | ⟨b, pr, sp, cap, rfl, e2, e3, e4, c⟩
  · omega
  · have hkm := Nat.mul_le_mul_right sz (Nat.le_of_lt hk)
    refine .inr ⟨b, pr ++ xs.take (k * sz), sp, cap - k, ?_, ?_, ?_, by omega, ?_⟩
    · simp only [slc]
      rw [if_neg (by omega), List.length_append, List.length_take, Nat.min_eq_left (by omega)]
      simp [add_mk]
    · rw [List.length_drop, e2, Nat.sub_mul]
    · rw [e3]; congr 1; omega
    · have : pr ++ xs.take (k * sz) ++ xs.drop (k * sz) ++ sp = pr ++ xs ++ sp := by
        rw [List.append_assoc pr, List.take_append_drop]
      rw [this]; exact c
end
end Go.Proofs.Ytiblemgccgbhoaa.Gw
set_option linter.unusedVariables false
set_option linter.unusedSimpArgs false
namespace Go.Proofs.Ytiblemgccgbhoaa
open Go Go.RowKit Gw
open Go.Value renaming int → vI, bool → vB, slice → vS, pointer → vP, agg → vA, tuple → vT

def rvk (p : (Int × Int) × Value) : RV := ⟨p.1.1, p.1.2⟩
theorem kept_step {out : List RV} {left m l1 l2 : List ((Int × Int) × Value)} {a b : Int} {v : Value} (h : (out ++ left.map rvk).Perm (m.map rvk)) (e : left = l1 ++ ((a, b), v) :: l2) : ((out ++ [(⟨a, b⟩ : RV)]) ++ (l1 ++ l2).map rvk).Perm (m.map rvk) := by
  subst e
  refine List.Perm.trans ?_ h
  rw [List.map_append, List.map_append, List.map_cons, List.append_assoc]
  refine List.Perm.append_left out ?_
  rw [List.singleton_append]
  exact List.perm_middle.symm
theorem kept_end {out : List RV} {left m : List ((Int × Int) × Value)} (h : (out ++ left.map rvk).Perm (m.map rvk)) (e : left = []) (hm : m.length ≤ 1) : out = m.map rvk := by
  subst e
  rw [List.map_nil, List.append_nil] at h
  match m, hm, h with
  | [], _, h => exact h.eq_nil
  | [x], _, h => exact List.perm_singleton.1 h

def lenTab : ByteArray := ByteArray.mk (List.toArray (List.append (List.append [0, 1, 2, 2, 3, 3, 3, 3, 4, 4, 4, 4, 4, 4, 4, 4, 5, 5, 5, 5, 5, 5, 5, 5, 5, 5, 5, 5, 5, 5, 5, 5, 6, 6, 6, 6, 6, 6, 6, 6, 6, 6, 6, 6, 6, 6, 6, 6, 6, 6, 6, 6, 6, 6, 6, 6, 6, 6, 6, 6, 6, 6, 6, 6] [7, 7, 7, 7, 7, 7, 7, 7, 7, 7, 7, 7, 7, 7, 7, 7, 7, 7, 7, 7, 7, 7, 7, 7, 7, 7, 7, 7, 7, 7, 7, 7, 7, 7, 7, 7, 7, 7, 7, 7, 7, 7, 7, 7, 7, 7, 7, 7, 7, 7, 7, 7, 7, 7, 7, 7, 7, 7, 7, 7, 7, 7, 7, 7]) (List.append [8, 8, 8, 8, 8, 8, 8, 8, 8, 8, 8, 8, 8, 8, 8, 8, 8, 8, 8, 8, 8, 8, 8, 8, 8, 8, 8, 8, 8, 8, 8, 8, 8, 8, 8, 8, 8, 8, 8, 8, 8, 8, 8, 8, 8, 8, 8, 8, 8, 8, 8, 8, 8, 8, 8, 8, 8, 8, 8, 8, 8, 8, 8, 8] [8, 8, 8, 8, 8, 8, 8, 8, 8, 8, 8, 8, 8, 8, 8, 8, 8, 8, 8, 8, 8, 8, 8, 8, 8, 8, 8, 8, 8, 8, 8, 8, 8, 8, 8, 8, 8, 8, 8, 8, 8, 8, 8, 8, 8, 8, 8, 8, 8, 8, 8, 8, 8, 8, 8, 8, 8, 8, 8, 8, 8, 8, 8, 8])))
theorem lenTab_len : (ints lenTab).length = 256 := by kernel_rfl

set_option maxHeartbeats 1600000 in
theorem kLen (R : HP) (n : Nat) (hn : n ≤ 1) :
    Tri Try.prog 74 #[(vI .u64 (n : Int))] R [] (fun v__ post__ => ∃ (r : Int), v__ = (vI .i64 r) ∧ post__ = []) := by
 refine Tri.into (n := 8) (al := [(vI .u64 (n : Int))]) Try.func74 rfl Try.ntmps74 rfl rfl fun w F H => ?_
 refine C_seq (fun K1_ hK1_ => C_reg ?_)
 refine sv (v := (vI .i64 0)) (x_assign rfl) ?_
 refine wpList_nil (X_then (hK1_ _ _ ?_))
 clear hK1_
 refine C_seq (fun K2_ hK2_ => ?_)
 refine C_condF rfl ?_
 refine C_skip (X_then (hK2_ _ _ ?_))
 clear hK2_
 refine C_seq (fun K3_ hK3_ => C_reg ?_)
 refine sv (v := (vI .u64 (n : Int))) (x_move rfl) ?_
 refine S_list (T_callW (al := [(vI .u64 (n : Int))]) rfl rfl cb85 (Calls.into (n := 25) (al := [(vI .u64 (n : Int))]) Try.func85 rfl Try.ntmps85 rfl rfl ?_))
 refine C_seq (fun K4_ hK4_ => C_reg ?_)
 refine sv (v := (vI .i64 0)) (x_assign rfl) ?_
 refine wpList_nil (X_then (hK4_ _ _ ?_))
 clear hK4_
 refine C_seq (fun K5_ hK5_ => ?_)
 refine C_seq (fun K6_ hK6_ => C_reg ?_)
 refine sv (v := (vI .u64 (n : Int))) (x_move rfl) ?_
 refine sv (v := (vB (decide (4294967296 ≤ (n : Int))))) (x_bin rfl rfl rfl) ?_
 refine wpList_nil (X_then (hK6_ _ _ ?_))
 clear hK6_
 refine C_cond (b := decide (4294967296 ≤ (n : Int))) rfl (fun c7_t => ?_) (fun c7_f => ?_)
 ·have c7_tp : 4294967296 ≤ (n : Int) := of_decide_eq_true c7_t
  omega
 ·have c7_fp : ¬ (4294967296 ≤ (n : Int)) := of_decide_eq_false c7_f
  refine C_skip (X_then (hK5_ _ _ ?_))
  clear hK5_
  refine C_seq (fun K8_ hK8_ => ?_)
  refine C_seq (fun K9_ hK9_ => C_reg ?_)
  refine sv (v := (vI .u64 (n : Int))) (x_move rfl) ?_
  refine sv (v := (vB (decide (65536 ≤ (n : Int))))) (x_bin rfl rfl rfl) ?_
  refine wpList_nil (X_then (hK9_ _ _ ?_))
  clear hK9_
  refine C_cond (b := decide (65536 ≤ (n : Int))) rfl (fun c10_t => ?_) (fun c10_f => ?_)
  ·have c10_tp : 65536 ≤ (n : Int) := of_decide_eq_true c10_t
   omega
  ·have c10_fp : ¬ (65536 ≤ (n : Int)) := of_decide_eq_false c10_f
   refine C_skip (X_then (hK8_ _ _ ?_))
   clear hK8_
   refine C_seq (fun K11_ hK11_ => ?_)
   refine C_seq (fun K12_ hK12_ => C_reg ?_)
   refine sv (v := (vI .u64 (n : Int))) (x_move rfl) ?_
   refine sv (v := (vB (decide (256 ≤ (n : Int))))) (x_bin rfl rfl rfl) ?_
   refine wpList_nil (X_then (hK12_ _ _ ?_))
   clear hK12_
   refine C_cond (b := decide (256 ≤ (n : Int))) rfl (fun c13_t => ?_) (fun c13_f => ?_)
   ·have c13_tp : 256 ≤ (n : Int) := of_decide_eq_true c13_t
    omega
   ·have c13_fp : ¬ (256 ≤ (n : Int)) := of_decide_eq_false c13_f
    refine C_skip (X_then (hK11_ _ _ ?_))
    clear hK11_
    refine C_seq (fun K14_ hK14_ => C_reg ?_)
    refine sv (v := (vI .i64 0)) (x_move rfl) ?_
    refine sv (v := (vI .u64 (n : Int))) (x_move rfl) ?_
    refine sv (v := (vI .u8 (n : Int))) (x_convI rfl Try.underlying141 Try.underlying5 (IntWalk.u8_in _ (by omega))) ?_
    obtain ⟨x15_, hx16_, hm17_⟩ := elem_at (ints lenTab) n (by rw [lenTab_len]; omega)
    refine sv (v := (vI .u8 x15_)) (x_strIdx (i := n) rfl rfl Try.underlying9 (by omega) (by omega) hx16_) ?_
    refine sv (v := (vI .i64 (IntKind.i64.wrap x15_))) (x_convI rfl Try.underlying5 Try.underlying3 rfl) ?_
    refine sv (v := (vI .i64 (IntKind.i64.wrap (0 + (IntKind.i64.wrap x15_))))) (x_bin rfl rfl rfl) ?_
    refine sv (v := (vI .i64 (IntKind.i64.wrap (0 + (IntKind.i64.wrap x15_))))) (x_assign rfl) ?_
    refine wpList_nil (X_then (hK14_ _ _ ?_))
    clear hK14_
    refine C_ret ?_
    refine R_any (v := (vI .i64 (IntKind.i64.wrap (0 + (IntKind.i64.wrap x15_))))) (run_results1 rfl rfl) ⟨_, rfl, ?_⟩
    refine sv (v := (vI .i64 (IntKind.i64.wrap (0 + (IntKind.i64.wrap x15_))))) (x_assign rfl) ?_
    refine wpList_nil (X_then (hK3_ _ _ ?_))
    clear hK3_
    refine C_ret ?_
    refine R_any (v := (vI .i64 (IntKind.i64.wrap (0 + (IntKind.i64.wrap x15_))))) (run_results1 rfl rfl) ?_
    exact ⟨_, _, rfl, ⟨IntKind.i64.wrap (0 + (IntKind.i64.wrap x15_)), rfl, rfl⟩, (Same.refl w), H⟩

set_option maxHeartbeats 1600000 in
theorem kIns1 (R : HP) (v : Value) (K : List RV) (m : Nat) (hm : m ≤ 1) :
    Tri Try.prog 76 #[v, (vI .i64 0), (vI .i64 (m : Int)), (Value.func (.func 61) #[] #[])] R [sl 31 2 v (List.length K) (K.flatMap RV.cells)] (fun v__ post__ => v__ = (vT #[]) ∧ post__ = [sl 31 2 v (List.length K) (K.flatMap RV.cells)]) := by
 refine Tri.into (n := 53) (al := [v, (vI .i64 0), (vI .i64 (m : Int)), (Value.func (.func 61) #[] #[])]) Try.func76 rfl Try.ntmps76 rfl rfl fun w F H => ?_
 refine C_seq (fun K1_ hK1_ => C_reg ?_)
 refine sv (v := (vI .i64 0)) (x_move rfl) ?_
 refine sv (v := (vI .i64 1)) (x_bin rfl rfl (by rfl)) ?_
 refine sv (v := (vI .i64 1)) (x_assign rfl) ?_
 refine wpList_nil (X_then (hK1_ _ _ ?_))
 clear hK1_
 refine C_block ?_
 refine C_loop (γ := Unit) (fun _ a__ w1__ => ∃ h : Env, a__ = mkA 53 (upd (upd (upd (upd (upd h 0 v) 1 (vI .i64 0)) 2 (vI .i64 (m : Int))) 3 (Value.func (.func 61) #[] #[])) 8 (vI .i64 1)) [] ∧ Holds w1__ (ro R :: sl 31 2 v (List.length K) (K.flatMap RV.cells) :: F) ∧ Same w w1__) (fun _ => 0) (()) ⟨_, congrArg (fun e => mkA 53 e []) (ch (ch (ch (ch (ch rfl rfl) rfl) rfl) rfl) rfl), H, (Same.refl w)⟩ ?_
 rintro _ _ w2_ ⟨h, rfl, H3_, S4_⟩
 refine C_seq (fun K5_ hK5_ => ?_)
 refine C_seq (fun K6_ hK6_ => C_reg ?_)
 refine sv (v := (vI .i64 1)) (x_move rfl) ?_
 refine sv (v := (vI .i64 (m : Int))) (x_move rfl) ?_
 refine sv (v := (vB (decide (1 < (m : Int))))) (x_bin rfl rfl rfl) ?_
 refine wpList_nil (X_then (hK6_ _ _ ?_))
 clear hK6_
 refine C_cond (b := decide (1 < (m : Int))) rfl (fun c7_t => ?_) (fun c7_f => ?_)
 ·have c7_tp : 1 < (m : Int) := of_decide_eq_true c7_t
  omega
 ·have c7_fp : ¬ (1 < (m : Int)) := of_decide_eq_false c7_f
  refine C_exit (X_thenX (X_thenX (X_blkHit ?_)))
  refine R_0 rfl ?_
  exact ⟨_, _, rfl, ⟨rfl, rfl⟩, S4_, H3_⟩

set_option maxHeartbeats 1600000 in
theorem kPdq1 (R : HP) (v : Value) (K : List RV) (m : Nat) (lim : Int) (hm : m ≤ 1) :
    Tri Try.prog 73 #[v, (vI .i64 0), (vI .i64 (m : Int)), (vI .i64 lim), (Value.func (.func 61) #[] #[])] R [sl 31 2 v (List.length K) (K.flatMap RV.cells)] (fun v__ post__ => v__ = (vT #[]) ∧ post__ = [sl 31 2 v (List.length K) (K.flatMap RV.cells)]) := by
 refine Tri.into (n := 148) (al := [v, (vI .i64 0), (vI .i64 (m : Int)), (vI .i64 lim), (Value.func (.func 61) #[] #[])]) Try.func73 rfl Try.ntmps73 rfl rfl fun w F H => ?_
 refine C_seq (fun K1_ hK1_ => C_reg ?_)
 refine sv (v := (vB true)) (x_assign rfl) ?_
 refine wpList_nil (X_then (hK1_ _ _ ?_))
 clear hK1_
 refine C_seq (fun K2_ hK2_ => C_reg ?_)
 refine sv (v := (vB true)) (x_assign rfl) ?_
 refine wpList_nil (X_then (hK2_ _ _ ?_))
 clear hK2_
 refine C_block ?_
 refine C_loop (γ := Bool × Bool) (fun x__ a__ w1__ => match x__ with | ⟨d10_v, t11_v⟩ => ∃ h : Env, a__ = mkA 148 (upd (upd (upd (upd (upd (upd (upd h 0 v) 1 (vI .i64 0)) 2 (vI .i64 (m : Int))) 3 (vI .i64 lim)) 4 (Value.func (.func 61) #[] #[])) 10 (vB d10_v)) 11 (vB t11_v)) [] ∧ Holds w1__ (ro R :: sl 31 2 v (List.length K) (K.flatMap RV.cells) :: F) ∧ Same w w1__) (fun x__ => match x__ with | ⟨d10_v, t11_v⟩ => 0) (⟨true, true⟩) ⟨_, congrArg (fun e => mkA 148 e []) (ch (ch (ch (ch (ch (ch (ch rfl rfl) rfl) rfl) rfl) rfl) rfl) rfl), H, (Same.refl w)⟩ ?_
 rintro ⟨d10_v, t11_v⟩ _ w3_ ⟨h, rfl, H4_, S5_⟩
 refine C_block ?_
 refine C_seq (fun K6_ hK6_ => C_reg ?_)
 refine sv (v := (vI .i64 (m : Int))) (x_move rfl) ?_
 refine sv (v := (vI .i64 0)) (x_move rfl) ?_
 refine sv (v := (vI .i64 ((m : Int) - 0))) (x_bin rfl rfl (ib_sub (IntWalk.i64_in _ (by omega)))) ?_
 refine sv (v := (vI .i64 ((m : Int) - 0))) (x_assign rfl) ?_
 refine wpList_nil (X_then (hK6_ _ _ ?_))
 clear hK6_
 refine C_seq (fun K7_ hK7_ => ?_)
 refine C_seq (fun K8_ hK8_ => C_reg ?_)
 refine sv (v := (vI .i64 ((m : Int) - 0))) (x_move rfl) ?_
 refine sv (v := (vB (decide ((m : Int) - 0 ≤ 12)))) (x_bin rfl rfl rfl) ?_
 refine wpList_nil (X_then (hK8_ _ _ ?_))
 clear hK8_
 refine C_cond (b := decide ((m : Int) - 0 ≤ 12)) rfl (fun c9_t => ?_) (fun c9_f => ?_)
 ·have c9_tp : (m : Int) - 0 ≤ 12 := of_decide_eq_true c9_t
  refine C_seq (fun K10_ hK10_ => C_reg ?_)
  refine sv (v := v) (x_move rfl) ?_
  refine sv (v := (vI .i64 0)) (x_move rfl) ?_
  refine sv (v := (vI .i64 (m : Int))) (x_move rfl) ?_
  refine sv (v := (Value.func (.func 61) #[] #[])) (x_move rfl) ?_
  refine S_list (T_call (al := [v, (vI .i64 0), (vI .i64 (m : Int)), (Value.func (.func 61) #[] #[])]) (pre := [sl 31 2 v (List.length K) (K.flatMap RV.cells)]) rfl rfl cb76 (kIns1 R v K m (by first | assumption | omega)) H4_ ?_)
  rintro v11_ p15_ w12_ ⟨rfl, rfl⟩ S14_ H13_
  have S16_ := Same.trans S5_ S14_
  refine wpList_nil (X_then (hK10_ _ _ ?_))
  clear hK10_
  refine C_ret (X_thenR (X_blkR (X_thenR (X_blkR ?_))))
  refine R_0r rfl ?_
  exact ⟨_, _, rfl, ⟨rfl, rfl⟩, S16_, H13_⟩
 ·have c9_fp : ¬ ((m : Int) - 0 ≤ 12) := of_decide_eq_false c9_f
  omega

set_option maxHeartbeats 1600000 in
theorem kSort1 (R : HP) (v : Value) (K : List RV) (hK : K.length ≤ 1) :
    Tri Try.prog 60 #[v, (Value.func (.func 61) #[] #[])] R [sl 31 2 v (List.length K) (K.flatMap RV.cells)] (fun v__ post__ => v__ = (vT #[]) ∧ post__ = [sl 31 2 v (List.length K) (K.flatMap RV.cells)]) := by
 refine Tri.into (n := 14) (al := [v, (Value.func (.func 61) #[] #[])]) Try.func60 rfl Try.ntmps60 rfl rfl fun w F H => ?_
 refine C_seq (fun K1_ hK1_ => C_reg ?_)
 refine sv (v := v) (x_move rfl) ?_
 refine sv (v := (vI .i64 ((List.length K) : Int))) (x_lenSl rfl H 1 rfl Try.underlying41) ?_
 refine sv (v := (vI .i64 ((List.length K) : Int))) (x_assign rfl) ?_
 refine wpList_nil (X_then (hK1_ _ _ ?_))
 clear hK1_
 refine C_reg ?_
 refine sv (v := v) (x_move rfl) ?_
 refine sv (v := (vI .i64 ((List.length K) : Int))) (x_move rfl) ?_
 refine sv (v := (vI .i64 ((List.length K) : Int))) (x_move rfl) ?_
 refine sv (v := (vI .u64 (K.length : Int))) (x_convI rfl Try.underlying3 Try.underlying127 (IntWalk.u64_in _ (by omega))) ?_
 refine S_list (T_call (al := [(vI .u64 (K.length : Int))]) (pre := []) rfl rfl cb74 (kLen R K.length (by first | assumption | omega)) H ?_)
 rintro v2_ p7_ w4_ ⟨r3_, rfl, rfl⟩ S6_ H5_
 have S8_ := Same.trans (Same.refl w) S6_
 refine sv (v := (Value.func (.func 61) #[] #[])) (x_move rfl) ?_
 refine S_list (T_call (al := [v, (vI .i64 0), (vI .i64 (K.length : Int)), (vI .i64 r3_), (Value.func (.func 61) #[] #[])]) (pre := [sl 31 2 v (List.length K) (K.flatMap RV.cells)]) rfl (lcons rfl (lcons rfl (lcons (congrArg (vI .i64) ((by first | rfl | omega | (simp; done) | (simp; omega)) : ((List.length K) : Int) = (K.length : Int))) rfl))) cb73 (kPdq1 R v K K.length r3_ (by first | assumption | omega)) H5_ ?_)
 rintro v9_ p13_ w10_ ⟨rfl, rfl⟩ S12_ H11_
 have S14_ := Same.trans S8_ S12_
 refine wpList_nil ?_
 refine R_0 rfl ?_
 exact ⟨_, _, rfl, ⟨rfl, rfl⟩, S14_, H11_⟩

set_option maxHeartbeats 1600000 in
theorem kKeptM (R : HP) (mb : Nat) (m : List ((Int × Int) × Value)) (hm : m.length ≤ 1) :
    Tri Try.prog 44 #[(Value.map (some mb))] R [mp K2 mb m] (fun v__ post__ => ∃ (v' : Value), v__ = v' ∧ post__ = [sl 31 2 v' (List.length (m.map rvk)) ((m.map rvk).flatMap RV.cells)]) := by
 refine Tri.into (n := 19) (al := [(Value.map (some mb))]) Try.func44 rfl Try.ntmps44 rfl rfl fun w F H => ?_
 refine C_seq (fun K1_ hK1_ => C_reg ?_)
 refine sv (v := (vS none 0 0)) (x_assign rfl) ?_
 refine wpList_nil (X_then (hK1_ _ _ ?_))
 clear hK1_
 refine C_seq (fun K2_ hK2_ => C_reg ?_)
 refine sv (v := (vS none 0 0)) (x_assign rfl) ?_
 refine wpList_nil (X_then (hK2_ _ _ ?_))
 clear hK2_
 refine C_seq (fun K3_ hK3_ => ?_)
 refine C_seq (fun K4_ hK4_ => C_reg ?_)
 refine sv (v := (Value.map (some mb))) (x_move rfl) ?_
 refine S_list (T_range rfl Try.underlying95 H 1 rfl ?_)
 intro r5_ w6_ S8_ H7_
 have S9_ := Same.trans (Same.refl w) S8_
 refine wpList_nil (X_then (hK4_ _ _ ?_))
 clear hK4_
 refine C_block ?_
 have H10_ : Holds w6_ (sl 31 2 (vS none 0 0) (List.length ([] : List RV)) (([] : List RV).flatMap RV.cells) :: ro R :: rg K2 mb r5_ m m none :: F) := Holds.add_nil H7_ 31 2
 refine C_loop (γ := (List ((Int × Int) × Value)) × (Option ((Int × Int) × Value)) × Value × (List RV)) (fun x__ a__ w1__ => match x__ with | ⟨left, cu, ov, out⟩ => ∃ h : Env, a__ = mkA 19 (upd (upd (upd h 2 (vS none 0 0)) 3 ov) 6 (vP (some ⟨r5_, 0, none⟩))) [] ∧ Holds w1__ (sl 31 2 ov (List.length out) (out.flatMap RV.cells) :: ro R :: rg K2 mb r5_ m left cu :: F) ∧ Same w w1__ ∧ ((out ++ left.map rvk).Perm (m.map rvk))) (fun x__ => match x__ with | ⟨left, cu, ov, out⟩ => left.length) (⟨m, none, (vS none 0 0), ([] : List RV)⟩) ⟨_, congrArg (fun e => mkA 19 e []) (ch (ch (ch rfl rfl) (rfl : (vS none 0 0) = ((vS none 0 0)))) rfl), H10_, S9_, (List.Perm.refl _)⟩ ?_
 rintro ⟨left, cu, ov, out⟩ _ w11_ ⟨h, rfl, H12_, S13_, hp⟩
 refine C_seq (fun K14_ hK14_ => C_reg ?_)
 refine S_list (T_next rfl H12_ 2 rfl (fun hl15_ => ?_) ?_)
 ·skip
  refine sv (v := (vB false)) (by kernel_rfl) ?_
  refine wpList_nil (X_then (hK14_ _ _ ?_))
  clear hK14_
  refine C_seq (fun K24_ hK24_ => ?_)
  refine C_condF rfl ?_
  refine C_exit (X_thenX (X_thenX (X_blkHit ?_)))
  refine (X_then (hK3_ _ _ ?_))
  clear hK3_
  refine C_seq (fun K25_ hK25_ => C_reg ?_)
  refine sv (v := ov) (x_move rfl) ?_
  have hout_ := kept_end hp hl15_ hm
  have H27_ := ((Holds.bring H12_ 1 rfl) :)
  refine S_list (T_call (al := [ov, (Value.func (.func 61) #[] #[])]) (pre := [sl 31 2 ov (List.length out) (out.flatMap RV.cells)]) rfl rfl cb60 (kSort1 R ov out (by rw [hout_, List.length_map]; exact hm)) H27_ ?_)
  rintro v26_ p31_ w28_ ⟨rfl, rfl⟩ S30_ H29_
  have S32_ := Same.trans S13_ S30_
  refine wpList_nil (X_then (hK25_ _ _ ?_))
  clear hK25_
  refine C_seq (fun K33_ hK33_ => C_reg ?_)
  refine sv (v := ov) (x_move rfl) ?_
  refine sv (v := ov) (x_assign rfl) ?_
  refine wpList_nil (X_then (hK33_ _ _ ?_))
  clear hK33_
  refine C_ret ?_
  refine R_any (v := ov) (run_results1 rfl rfl) ?_
  have H34_ := Holds.resl H29_ 1 rfl ((by first | rfl | rw [hout_]) : out.flatMap RV.cells = (m.map rvk).flatMap RV.cells) ((by first | rfl | rw [hout_]) : (List.length out) = (List.length (m.map rvk)))
  have H35_ : Holds w28_ (ro R :: sl 31 2 ov (List.length (m.map rvk)) ((m.map rvk).flatMap RV.cells) :: F) := (Holds.pkF H34_ [0, 0] 1 :)
  exact ⟨_, _, rfl, ⟨ov, rfl, rfl⟩, S32_, H35_⟩
 ·rintro ⟨⟨p16_a, p16_b⟩, p16_v⟩ l17_ l18_ he19_
  intro w20_ S22_ H21_
  have S23_ := Same.trans S13_ S22_
  refine sv (v := (vB true)) (by kernel_rfl) ?_
  refine wpList_nil (X_then (hK14_ _ _ ?_))
  clear hK14_
  refine C_seq (fun K36_ hK36_ => ?_)
  refine C_condT rfl ?_
  refine C_skip (X_then (hK36_ _ _ ?_))
  clear hK36_
  refine C_block ?_
  refine C_seq (fun K37_ hK37_ => C_reg ?_)
  refine S_list (T_entry rfl H21_ 2 rfl ?_)
  refine sv (v := (vA #[(vI .i64 p16_a), (vI .i64 p16_b)])) (by kernel_rfl) ?_
  refine S_list (T_alloc z58 H21_ ?_)
  intro b38_ w39_ S41_ H40_
  have S42_ := Same.trans S23_ S41_
  refine S_list0 (T_storeN (vs := [(vI .i64 p16_a), (vI .i64 p16_b)]) rfl rfl z58 rfl (by simp [Value.oneCell']) H40_ 0 rfl (Nat.le_of_ble_eq_true (by rfl)) ?_)
  intro w43_ S45_ H44_
  have S46_ := Same.trans S42_ S45_
  refine wpList_nil (X_then (hK37_ _ _ ?_))
  clear hK37_
  refine C_reg ?_
  refine sv (v := ov) (x_move rfl) ?_
  refine sv (v := (vA #[(vI .i64 p16_a), (vI .i64 p16_b)])) (x_loadN (vs := [(vI .i64 p16_a), (vI .i64 p16_b)]) rfl Try.underlying58 rfl z58 rfl (Rd.cells (Holds.rd H44_ 0 rfl) 0 rfl)) ?_
  refine S_list (T_callW (al := [(vA #[(vI .i64 p16_a), (vI .i64 p16_b)])]) rfl rfl cb41 (Calls.into (n := 8) (al := [(vA #[(vI .i64 p16_a), (vI .i64 p16_b)])]) Try.func41 rfl Try.ntmps41 rfl rfl ?_))
  refine C_seq (fun K47_ hK47_ => C_reg ?_)
  refine S_list (T_box (v := (vA #[(vI .i64 p16_a), (vI .i64 p16_b)])) rfl H44_ ?_)
  intro b48_ w49_ S51_ H50_
  have S52_ := Same.trans S46_ S51_
  refine S_list (T_alloc z31 H50_ ?_)
  intro b53_ w54_ S56_ H55_
  have S57_ := Same.trans S52_ S56_
  refine wpList_nil (X_then (hK47_ _ _ ?_))
  clear hK47_
  refine C_seq (fun K58_ hK58_ => C_reg ?_)
  refine sv (v := (vP (some ⟨b48_, 0, none⟩))) (by kernel_rfl) ?_
  refine sv (v := (vI .i64 p16_a)) (x_load1 rfl Try.underlying2 rfl ((Holds.rd H55_ 1 rfl) 0 (vI .i64 p16_a) rfl)) ?_
  refine sv (v := (vP (some ⟨b48_, 1, none⟩))) (by kernel_rfl) ?_
  refine sv (v := (vI .i64 p16_b)) (x_load1 rfl Try.underlying2 rfl ((Holds.rd H55_ 1 rfl) 1 (vI .i64 p16_b) rfl)) ?_
  refine sv (v := (vA #[(vI .i64 p16_a), (vI .i64 p16_b)])) (by kernel_rfl) ?_
  refine S_list0 (T_storeN (vs := [(vI .i64 p16_a), (vI .i64 p16_b)]) rfl rfl z31 rfl (by simp [Value.oneCell']) H55_ 0 rfl (Nat.le_of_ble_eq_true (by rfl)) ?_)
  intro w59_ S61_ H60_
  have S62_ := Same.trans S57_ S61_
  refine wpList_nil (X_then (hK58_ _ _ ?_))
  clear hK58_
  refine C_ret ?_
  refine R_any (v := (vA #[(vI .i64 p16_a), (vI .i64 p16_b)])) (run_results1 rfl ⟨_, rfl, load_resN Try.underlying31 rfl z31 rfl (vs := [(vI .i64 p16_a), (vI .i64 p16_b)]) (Holds.cl_cells H60_ 0 rfl 0 rfl)⟩) ⟨_, rfl, ?_⟩
  refine S_list (T_new (obj := .cells #[(vI .i64 p16_a), (vI .i64 p16_b)] 31) (f := fun b__ => .slice (some ⟨b__, 0, none⟩) 1 1) (A := fun b__ => cl b__ 31 [(vI .i64 p16_a), (vI .i64 p16_b)]) (by kernel_rfl) (fun l h => h.alloc _ _) H60_ ?_)
  intro b63_ w64_ S66_ H65_
  have S67_ := Same.trans S62_ S66_
  refine S_list (T_append rfl rfl Try.underlying41 z31 rfl (by decide) H65_ 4 rfl (Holds.cl_src H65_ 0 rfl Try.underlying41 (by simp [Value.oneCell']) rfl) (by have hl_ := hp.length_eq; rw [List.length_append, List.length_map, List.length_map] at hl_; omega) ?_)
  intro v68_ w69_ S71_ H70_
  have S72_ := Same.trans S67_ S71_
  refine sv (v := v68_) (x_assign rfl) ?_
  refine wpList_nil (X_blkN (X_then ?_))
  have H73_ := Holds.resl H70_ 4 rfl (by simp [RV.cells] : (out.flatMap RV.cells) ++ [(vI .i64 p16_a), (vI .i64 p16_b)] = (out ++ [(⟨p16_a, p16_b⟩ : RV)]).flatMap RV.cells) (by simp : (List.length out) + 1 = (List.length (out ++ [(⟨p16_a, p16_b⟩ : RV)])))
  have H74_ : Holds w69_ (sl 31 2 v68_ (List.length (out ++ [(⟨p16_a, p16_b⟩ : RV)])) ((out ++ [(⟨p16_a, p16_b⟩ : RV)]).flatMap RV.cells) :: ro R :: rg K2 mb r5_ m (l17_ ++ l18_) (some (⟨p16_a, p16_b⟩, p16_v)) :: F) := (Holds.pkF H73_ [4, 4, 4] 4 :)
  exact ⟨⟨l17_ ++ l18_, (some (⟨p16_a, p16_b⟩, p16_v)), v68_, (out ++ [(⟨p16_a, p16_b⟩ : RV)])⟩, ⟨_, congrArg (fun e => mkA 19 e []) (ch (ch (ch rfl rfl) rfl) rfl), H74_, S72_, (kept_step hp he19_)⟩, (by have h9_ := congrArg List.length he19_; simp at h9_ ⊢; omega)⟩
end Go.Proofs.Ytiblemgccgbhoaa
set_option linter.unusedVariables false
set_option linter.unusedSimpArgs false
namespace Go.Proofs.Ytiblemgccgbhoaa
open Go Go.RowKit Gw
open Go.Value renaming int → vI, bool → vB, slice → vS, pointer → vP, agg → vA, tuple → vT

/-- The life that compacting at a number begins with. -/
def cIdx : List GM → Int → Nat
  | g :: h :: r, at_ => if at_ ≤ gEnd g then 0 else cIdx (h :: r) at_ + 1
  | _, _ => 0
theorem cIdx_one (g : GM) (at_ : Int) : cIdx [g] at_ = 0 := rfl
section
variable {N : List GN} {at_ : Int} {c : Nat} {x : GN} {y : RV}
theorem cIdx_last (hc : c < N.length) (h : ¬ (c : Int) < (N.length : Int) - 1) (hin : cIdx (N.map GN.m) at_ = c + cIdx ((N.map GN.m).drop c) at_) : cIdx (N.map GN.m) at_ = c := by
  have hl : ((N.map GN.m).drop c).length = 1 := by rw [List.length_drop, List.length_map]; omega
  match hd : (N.map GN.m).drop c, hl with
  | [g], _ => rw [hd, cIdx_one] at hin; omega
theorem drop_two (hx : N[c]? = some x) (h : (c : Int) < (N.length : Int) - 1) : ∃ g r, (N.map GN.m).drop c = x.m :: g :: r ∧ (N.map GN.m).drop (c + 1) = g :: r := by
  have h1 := drop_at (l := N.map GN.m) (k := c) (x := x.m) (by rw [List.getElem?_map, hx]; rfl)
  have hl : 0 < ((N.map GN.m).drop (c + 1)).length := by rw [List.length_drop, List.length_map]; omega
  match hd : (N.map GN.m).drop (c + 1), hl with
  | g :: r, _ => exact ⟨g, r, by rw [h1, hd], rfl⟩
theorem cIdx_stop (hx : N[c]? = some x) (h : (c : Int) < (N.length : Int) - 1) (hy : x.l[((x.l.length : Int) - 1).toNat]? = some y) (ha : at_ ≤ y.main) (hin : cIdx (N.map GN.m) at_ = c + cIdx ((N.map GN.m).drop c) at_) : cIdx (N.map GN.m) at_ = c := by
  obtain ⟨g, r, e, _⟩ := drop_two hx h
  rw [hin, e, cIdx, gEnd_at hy, if_pos ha]; rfl
theorem cIdx_next (hx : N[c]? = some x) (h : (c : Int) < (N.length : Int) - 1) (hy : x.l[((x.l.length : Int) - 1).toNat]? = some y) (ha : ¬ at_ ≤ y.main) (hin : cIdx (N.map GN.m) at_ = c + cIdx ((N.map GN.m).drop c) at_) : cIdx (N.map GN.m) at_ = (c + 1) + cIdx ((N.map GN.m).drop (c + 1)) at_ := by
  obtain ⟨g, r, e, e2⟩ := drop_two hx h
  rw [hin, e, cIdx, gEnd_at hy, if_neg ha, e2]; omega
end


set_option maxHeartbeats 1600000 in
theorem kWalkC (R : HP) (gv : Value) (N : List GN) (j : Nat) (x : GN) (ab bb mb : Nat) (at_ : Int) (h1 : RS R 4 gv (List.length N) (N.flatMap GN.cells)) (hx : N[j]? = some x) (hgx : RS R 2 x.revs (List.length x.l) (x.l.flatMap RV.cells)) (hlx : x.l.length ≤ 100000) :
    Tri Try.prog 71 #[(vP (some ⟨(sb gv), so gv + (j * 4 + 0), none⟩)), (Value.func (.func 86) #[] #[(vP (some ⟨ab, 0, none⟩)), (vP (some ⟨bb, 0, none⟩))])] R [cl ab 2 [(vI .i64 at_)], cl bb 95 [(Value.map (some mb))], mp K2 mb ([] : List ((Int × Int) × Value))] (fun v__ post__ => (v__ = (vI .i64 (-1)) ∧ post__ = [cl ab 2 [(vI .i64 at_)], cl bb 95 [(Value.map (some mb))], mp K2 mb ([] : List ((Int × Int) × Value))] ∧ (rLastN x.l at_ x.l.length = 0)) ∨ (∃ (y : RV), v__ = (vI .i64 ((rLastN x.l at_ x.l.length : Int) - 1)) ∧ post__ = [cl ab 2 [(vI .i64 at_)], cl bb 95 [(Value.map (some mb))], mp K2 mb [((y.main, y.sub), vA #[])]] ∧ (x.l[rLastN x.l at_ x.l.length - 1]? = some y) ∧ (0 < rLastN x.l at_ x.l.length))) := by
 refine Tri.into (n := 40) (al := [(vP (some ⟨(sb gv), so gv + (j * 4 + 0), none⟩)), (Value.func (.func 86) #[] #[(vP (some ⟨ab, 0, none⟩)), (vP (some ⟨bb, 0, none⟩))])]) Try.func71 rfl Try.ntmps71 rfl rfl fun w F H => ?_
 refine C_seq (fun K1_ hK1_ => C_reg ?_)
 refine sv (v := (vI .i64 0)) (x_assign rfl) ?_
 refine wpList_nil (X_then (hK1_ _ _ ?_))
 clear hK1_
 refine C_seq (fun K2_ hK2_ => C_reg ?_)
 refine sv (v := (vP (some ⟨(sb gv), so gv + (j * 4 + 0), none⟩))) (x_move rfl) ?_
 refine sv (v := (vP (some ⟨(sb gv), so gv + (j * 4 + 0), none⟩))) (by kernel_rfl) ?_
 refine sv (v := (vP (some ⟨(sb gv), so gv + (j * 4 + 3), none⟩))) (by kernel_rfl) ?_
 refine sv (v := x.revs) (x_load1 rfl Try.underlying80 rfl (RC.cell (RS.rc h1) (Holds.ro_at H 0 rfl) (j := j * 4 + 3) (u := x.revs) (fm_cell GN.len hx (i := 3) rfl))) ?_
 refine sv (v := (vI .i64 ((List.length x.l) : Int))) (x_lenRS rfl hgx Try.underlying80) ?_
 refine sv (v := (vI .i64 ((List.length x.l) : Int))) (x_assign rfl) ?_
 refine wpList_nil (X_then (hK2_ _ _ ?_))
 clear hK2_
 refine C_seq (fun K3_ hK3_ => ?_)
 refine C_seq (fun K4_ hK4_ => C_reg ?_)
 refine sv (v := (vP (some ⟨(sb gv), so gv + (j * 4 + 0), none⟩))) (x_move rfl) ?_
 refine sv (v := (vP (some ⟨(sb gv), so gv + (j * 4 + 0), none⟩))) (by kernel_rfl) ?_
 refine sv (v := (vP (some ⟨(sb gv), so gv + (j * 4 + 3), none⟩))) (by kernel_rfl) ?_
 refine sv (v := x.revs) (x_load1 rfl Try.underlying80 rfl (RC.cell (RS.rc h1) (Holds.ro_at H 0 rfl) (j := j * 4 + 3) (u := x.revs) (fm_cell GN.len hx (i := 3) rfl))) ?_
 refine sv (v := (vI .i64 ((List.length x.l) : Int))) (x_lenRS rfl hgx Try.underlying80) ?_
 refine sv (v := (vI .i64 0)) (x_move rfl) ?_
 refine wpList_nil (X_then (hK4_ _ _ ?_))
 clear hK4_
 refine C_block ?_
 refine C_loop (γ := Nat × Int) (fun x__ a__ w1__ => match x__ with | ⟨i, t4_v⟩ => ∃ h : Env, a__ = mkA 40 (upd (upd (upd (upd (upd (upd h 0 (vP (some ⟨(sb gv), so gv + (j * 4 + 0), none⟩))) 1 (Value.func (.func 86) #[] #[(vP (some ⟨ab, 0, none⟩)), (vP (some ⟨bb, 0, none⟩))])) 4 (vI .i64 t4_v)) 5 (vI .i64 ((List.length x.l) : Int))) 17 (vI .i64 ((List.length x.l) : Int))) 18 (vI .i64 (i : Int))) [] ∧ Holds w1__ (ro R :: cl ab 2 [(vI .i64 at_)] :: cl bb 95 [(Value.map (some mb))] :: mp K2 mb ([] : List ((Int × Int) × Value)) :: F) ∧ Same w w1__ ∧ (i ≤ x.l.length) ∧ (rLastN x.l at_ x.l.length = rLastN x.l at_ (x.l.length - i))) (fun x__ => match x__ with | ⟨i, t4_v⟩ => x.l.length - i) (⟨0, 0⟩) ⟨_, congrArg (fun e => mkA 40 e []) (ch (ch (ch (ch (ch (ch rfl rfl) rfl) rfl) rfl) rfl) (congrArg (vI .i64) ((by first | rfl | omega | (simp; done) | (simp; omega)) : 0 = (0 : Int)))), H, (Same.refl w), (by first | assumption | omega | exact rfl), (rfl)⟩ ?_
 rintro ⟨i, t4_v⟩ _ w5_ ⟨h, rfl, H6_, S7_, hi, hin⟩
 refine C_seq (fun K8_ hK8_ => C_reg ?_)
 refine sv (v := (vB (decide ((i : Int) < ((List.length x.l) : Int))))) (x_bin rfl rfl rfl) ?_
 refine wpList_nil (X_then (hK8_ _ _ ?_))
 clear hK8_
 refine C_seq (fun K9_ hK9_ => ?_)
 refine C_cond (b := decide ((i : Int) < ((List.length x.l) : Int))) rfl (fun c10_t => ?_) (fun c10_f => ?_)
 ·have c10_tp : (i : Int) < ((List.length x.l) : Int) := of_decide_eq_true c10_t
  refine C_skip (X_then (hK9_ _ _ ?_))
  clear hK9_
  refine C_seq (fun K11_ hK11_ => ?_)
  refine C_block ?_
  refine C_seq (fun K12_ hK12_ => C_reg ?_)
  refine sv (v := (vI .i64 (i : Int))) (x_move rfl) ?_
  refine sv (v := (vI .i64 (i : Int))) (x_assign rfl) ?_
  refine wpList_nil (X_then (hK12_ _ _ ?_))
  clear hK12_
  refine C_seq (fun K13_ hK13_ => C_reg ?_)
  refine sv (v := (Value.func (.func 86) #[] #[(vP (some ⟨ab, 0, none⟩)), (vP (some ⟨bb, 0, none⟩))])) (x_move rfl) ?_
  refine sv (v := (vP (some ⟨(sb gv), so gv + (j * 4 + 0), none⟩))) (x_move rfl) ?_
  refine sv (v := (vP (some ⟨(sb gv), so gv + (j * 4 + 0), none⟩))) (by kernel_rfl) ?_
  refine sv (v := (vP (some ⟨(sb gv), so gv + (j * 4 + 3), none⟩))) (by kernel_rfl) ?_
  refine sv (v := x.revs) (x_load1 rfl Try.underlying80 rfl (RC.cell (RS.rc h1) (Holds.ro_at H6_ 0 rfl) (j := j * 4 + 3) (u := x.revs) (fm_cell GN.len hx (i := 3) rfl))) ?_
  refine sv (v := (vI .i64 ((List.length x.l) : Int))) (x_move rfl) ?_
  refine sv (v := (vI .i64 (i : Int))) (x_move rfl) ?_
  refine sv (v := (vI .i64 (((List.length x.l) : Int) - (i : Int)))) (x_bin rfl rfl (ib_sub (IntWalk.i64_in _ (by omega)))) ?_
  refine sv (v := (vI .i64 ((((List.length x.l) : Int) - (i : Int)) - 1))) (x_bin rfl rfl (ib_sub (IntWalk.i64_in _ (by omega)))) ?_
  obtain ⟨x14_, hx15_, hm16_⟩ := elem_at x.l (((((List.length x.l) : Int) - (i : Int)) - 1).toNat) (by omega)
  refine sv (v := (vP (some ⟨(sb x.revs), so x.revs + ((((((List.length x.l) : Int) - (i : Int)) - 1).toNat) * 2 + 0), none⟩))) (x_idxRS (v := x.revs) rfl hgx rfl Try.underlying80 z58 (by omega) (by omega) (by omega : _ = ((((List.length x.l) : Int) - (i : Int)) - 1).toNat) rfl) ?_
  refine sv (v := (vA #[(vI .i64 x14_.main), (vI .i64 x14_.sub)])) (x_loadN (vs := [(vI .i64 x14_.main), (vI .i64 x14_.sub)]) rfl Try.underlying58 rfl z58 rfl (RC.cells (RS.rc hgx) (Holds.ro_at H6_ 0 rfl) ((((((List.length x.l) : Int) - (i : Int)) - 1).toNat) * 2 + 0) (fm_cells RV.len hx15_ (i := 0) rfl))) ?_
  refine S_list (T_callW (al := [(vA #[(vI .i64 x14_.main), (vI .i64 x14_.sub)]), (vP (some ⟨ab, 0, none⟩)), (vP (some ⟨bb, 0, none⟩))]) rfl rfl cb86 (Calls.into (n := 12) (al := [(vA #[(vI .i64 x14_.main), (vI .i64 x14_.sub)]), (vP (some ⟨ab, 0, none⟩)), (vP (some ⟨bb, 0, none⟩))]) Try.func86 rfl Try.ntmps86 rfl rfl ?_))
  refine C_seq (fun K17_ hK17_ => C_reg ?_)
  refine S_list (T_box (v := (vA #[(vI .i64 x14_.main), (vI .i64 x14_.sub)])) rfl H6_ ?_)
  intro b18_ w19_ S21_ H20_
  have S22_ := Same.trans S7_ S21_
  refine sv (v := (vB false)) (x_assign rfl) ?_
  refine wpList_nil (X_then (hK17_ _ _ ?_))
  clear hK17_
  refine C_seq (fun K23_ hK23_ => ?_)
  refine C_seq (fun K24_ hK24_ => C_reg ?_)
  refine sv (v := (vP (some ⟨b18_, 0, none⟩))) (by kernel_rfl) ?_
  refine sv (v := (vI .i64 x14_.main)) (x_load1 rfl Try.underlying2 rfl ((Holds.rd H20_ 0 rfl) 0 (vI .i64 x14_.main) rfl)) ?_
  refine sv (v := (vI .i64 at_)) (x_load1 rfl Try.underlying2 rfl ((Holds.rd H20_ 2 rfl) 0 (vI .i64 at_) rfl)) ?_
  refine sv (v := (vB (decide (x14_.main ≤ at_)))) (x_bin rfl rfl rfl) ?_
  refine wpList_nil (X_then (hK24_ _ _ ?_))
  clear hK24_
  refine C_cond (b := decide (x14_.main ≤ at_)) rfl (fun c25_t => ?_) (fun c25_f => ?_)
  ·have c25_tp : x14_.main ≤ at_ := of_decide_eq_true c25_t
   refine C_seq (fun K26_ hK26_ => C_reg ?_)
   refine sv (v := (Value.map (some mb))) (x_load1 rfl Try.underlying95 rfl ((Holds.rd H20_ 3 rfl) 0 (Value.map (some mb)) rfl)) ?_
   refine sv (v := (vA #[(vI .i64 x14_.main), (vI .i64 x14_.sub)])) (x_loadN (vs := [(vI .i64 x14_.main), (vI .i64 x14_.sub)]) rfl Try.underlying58 rfl z58 rfl (Rd.cells (Holds.rd H20_ 0 rfl) 0 rfl)) ?_
   refine sv (v := (vA #[])) (by kernel_rfl) ?_
   refine S_list0 (T_mapUpdate (K := K2) (a := (x14_.main, x14_.sub)) rfl rfl rfl (KeyKind.pair (t := 2) ⟨Try.underlying58, by kernel_rfl, by kernel_rfl, by kernel_rfl, rfl, rfl, rfl, rfl, Try.underlying2⟩) Try.underlying95 H20_ 4 rfl (List.nodup_nil) ?_)
   intro w27_ S29_ H28_
   have S30_ := Same.trans S22_ S29_
   refine wpList_nil (X_then (hK26_ _ _ ?_))
   clear hK26_
   refine C_seq (fun K31_ hK31_ => C_reg ?_)
   refine sv (v := (vB false)) (x_assign rfl) ?_
   refine wpList_nil (X_then (hK31_ _ _ ?_))
   clear hK31_
   refine C_ret (X_thenR ?_)
   refine R_any (v := (vB false)) (run_results1 rfl rfl) ⟨_, rfl, ?_⟩
   refine sv (v := (vB false)) (x_assign rfl) ?_
   refine wpList_nil (X_then (hK13_ _ _ ?_))
   clear hK13_
   refine C_seq (fun K32_ hK32_ => C_reg ?_)
   refine sv (v := (vB false)) (x_move rfl) ?_
   refine sv (v := (vB true)) (x_cast (x_not (b := false) rfl) rfl) ?_
   refine wpList_nil (X_then (hK32_ _ _ ?_))
   clear hK32_
   refine C_condT rfl ?_
   refine C_seq (fun K33_ hK33_ => C_reg ?_)
   refine sv (v := (vI .i64 ((List.length x.l) : Int))) (x_move rfl) ?_
   refine sv (v := (vI .i64 (i : Int))) (x_move rfl) ?_
   refine sv (v := (vI .i64 (((List.length x.l) : Int) - (i : Int)))) (x_bin rfl rfl (ib_sub (IntWalk.i64_in _ (by omega)))) ?_
   refine sv (v := (vI .i64 ((((List.length x.l) : Int) - (i : Int)) - 1))) (x_bin rfl rfl (ib_sub (IntWalk.i64_in _ (by omega)))) ?_
   refine sv (v := (vI .i64 ((((List.length x.l) : Int) - (i : Int)) - 1))) (x_assign rfl) ?_
   refine wpList_nil (X_then (hK33_ _ _ ?_))
   clear hK33_
   refine C_ret (X_blkR (X_thenR (X_thenR (X_blkR (X_thenR ?_)))))
   refine R_any (v := (vI .i64 ((((List.length x.l) : Int) - (i : Int)) - 1))) (run_results1 rfl rfl) ?_
   have eH34_ : mp K2 mb (mset ([] : List ((Int × Int) × Value)) (x14_.main, x14_.sub) (vA #[])) = mp K2 mb [((x14_.main, x14_.sub), vA #[])] := by first | rfl | (congr 1 <;> first | rfl | omega | (simp; done) | (simp; omega))
   have H34_ : Holds w27_ (cl b18_ 58 [(vI .i64 x14_.main), (vI .i64 x14_.sub)] :: ro R :: cl ab 2 [(vI .i64 at_)] :: cl bb 95 [(Value.map (some mb))] :: mp K2 mb [((x14_.main, x14_.sub), vA #[])] :: F) := cast1 (P := fun c__ => Holds w27_ (cl b18_ 58 [(vI .i64 x14_.main), (vI .i64 x14_.sub)] :: ro R :: cl ab 2 [(vI .i64 at_)] :: cl bb 95 [(Value.map (some mb))] :: c__ :: F)) eH34_ H28_
   have H35_ : Holds w27_ (ro R :: cl ab 2 [(vI .i64 at_)] :: cl bb 95 [(Value.map (some mb))] :: mp K2 mb [((x14_.main, x14_.sub), vA #[])] :: F) := (Holds.pkF H34_ [1, 1, 1, 1] 1 :)
   exact ⟨_, _, rfl, (.inr ⟨x14_, (congrArg (vI .i64) ((by rw [hin, rLastN_yes hx15_ (by omega) (by omega)]; omega) : (((List.length x.l) : Int) - (i : Int)) - 1 = (rLastN x.l at_ x.l.length : Int) - 1)), rfl, (by rw [hin, rLastN_yes hx15_ (by omega) (by omega), show x.l.length - i - 1 = ((x.l.length : Int) - (i : Int) - 1).toNat by omega]; exact hx15_), (by rw [hin, rLastN_yes hx15_ (by omega) (by omega)]; omega)⟩), S30_, H35_⟩
  ·have c25_fp : ¬ (x14_.main ≤ at_) := of_decide_eq_false c25_f
   refine C_skip (X_then (hK23_ _ _ ?_))
   clear hK23_
   refine C_seq (fun K36_ hK36_ => C_reg ?_)
   refine sv (v := (vB true)) (x_assign rfl) ?_
   refine wpList_nil (X_then (hK36_ _ _ ?_))
   clear hK36_
   refine C_ret ?_
   refine R_any (v := (vB true)) (run_results1 rfl rfl) ⟨_, rfl, ?_⟩
   refine sv (v := (vB true)) (x_assign rfl) ?_
   refine wpList_nil (X_then (hK13_ _ _ ?_))
   clear hK13_
   refine C_seq (fun K37_ hK37_ => C_reg ?_)
   refine sv (v := (vB true)) (x_move rfl) ?_
   refine sv (v := (vB false)) (x_cast (x_not (b := true) rfl) rfl) ?_
   refine wpList_nil (X_then (hK37_ _ _ ?_))
   clear hK37_
   refine C_condF rfl ?_
   refine C_skip (X_blkN (X_then (hK11_ _ _ ?_)))
   clear hK11_
   refine C_reg ?_
   refine sv (v := (vI .i64 ((i : Int) + 1))) (x_bin rfl rfl (ib_add (IntWalk.i64_in _ (by omega)))) ?_
   refine sv (v := (vI .i64 ((i : Int) + 1))) (x_move rfl) ?_
   refine wpList_nil (X_then ?_)
   have H38_ : Holds w19_ (ro R :: cl ab 2 [(vI .i64 at_)] :: cl bb 95 [(Value.map (some mb))] :: mp K2 mb ([] : List ((Int × Int) × Value)) :: F) := (Holds.pkF H20_ [1, 1, 1, 1] 1 :)
   exact ⟨⟨i + 1, t4_v⟩, ⟨_, congrArg (fun e => mkA 40 e []) (ch (ch (ch (ch (ch (ch rfl rfl) rfl) rfl) rfl) rfl) (congrArg (vI .i64) ((by first | rfl | omega | (simp; done) | (simp; omega)) : (i : Int) + 1 = ((i + 1 : Nat) : Int)))), H38_, S22_, (by first | assumption | omega | exact rfl), (by rw [hin, rLastN_no hx15_ (by omega) (by omega)])⟩, by first | omega | (dsimp only; omega) | (simp; omega)⟩
 ·have c10_fp : ¬ ((i : Int) < ((List.length x.l) : Int)) := of_decide_eq_false c10_f
  refine C_exit (X_thenX (X_thenX (X_blkHit ?_)))
  refine (X_then (hK3_ _ _ ?_))
  clear hK3_
  refine C_seq (fun K39_ hK39_ => C_reg ?_)
  refine sv (v := (vI .i64 (-1))) (x_assign rfl) ?_
  refine wpList_nil (X_then (hK39_ _ _ ?_))
  clear hK39_
  refine C_ret ?_
  refine R_any (v := (vI .i64 (-1))) (run_results1 rfl rfl) ?_
  exact ⟨_, _, rfl, (.inl ⟨rfl, rfl, (by rw [hin, show x.l.length - i = 0 by omega]; rfl)⟩), S7_, H6_⟩

set_option maxHeartbeats 4000000 in
theorem kDoCR (R : HP) (kb : Nat) (ka : Option Addr) (kl kc : Nat) (m n : Int) (gv : Value) (N : List GN) (at_ : Int) (mb : Nat) (h1 : RS R 4 gv (List.length N) (N.flatMap GN.cells)) (hg1 : ∀ x ∈ N, GOk R x) (hb1 : N.length ≤ 100000) (hb2 : ∀ x ∈ N, x.l.length ≤ 100000) (hn0 : 0 < N.length) (hful : ∀ (j : Nat) (x : GN), j + 1 < N.length → N[j]? = some x → 0 < x.l.length) :
    Tri Try.prog 75 #[(vP (some ⟨kb, 0, none⟩)), (vI .i64 at_), (Value.map (some mb))] R [cl kb 104 [(vS ka kl kc), (vI .i64 m), (vI .i64 n), gv], mp K2 mb ([] : List ((Int × Int) × Value))] (fun v__ post__ => (∃ (c : Nat) (x : GN), v__ = (vT #[(vI .i64 (c : Int)), (vI .i64 (-1))]) ∧ post__ = [cl kb 104 [(vS ka kl kc), (vI .i64 m), (vI .i64 n), gv], mp K2 mb ([] : List ((Int × Int) × Value))] ∧ (cIdx (N.map GN.m) at_ = c) ∧ (N[c]? = some x) ∧ (rLastN x.l at_ x.l.length = 0)) ∨ (∃ (c : Nat) (x : GN) (y : RV), v__ = (vT #[(vI .i64 (c : Int)), (vI .i64 ((rLastN x.l at_ x.l.length : Int) - 1))]) ∧ post__ = [cl kb 104 [(vS ka kl kc), (vI .i64 m), (vI .i64 n), gv], mp K2 mb [((y.main, y.sub), vA #[])]] ∧ (cIdx (N.map GN.m) at_ = c) ∧ (N[c]? = some x) ∧ (x.l[rLastN x.l at_ x.l.length - 1]? = some y) ∧ (0 < rLastN x.l at_ x.l.length))) := by
 refine Tri.into (n := 54) (al := [(vP (some ⟨kb, 0, none⟩)), (vI .i64 at_), (Value.map (some mb))]) Try.func75 rfl Try.ntmps75 rfl rfl fun w F H => ?_
 refine C_seq (fun K1_ hK1_ => C_reg ?_)
 refine S_list (T_box (v := (vI .i64 at_)) rfl H ?_)
 intro b2_ w3_ S5_ H4_
 have S6_ := Same.trans (Same.refl w) S5_
 refine S_list (T_box (v := (Value.map (some mb))) rfl H4_ ?_)
 intro b7_ w8_ S10_ H9_
 have S11_ := Same.trans S6_ S10_
 refine sv (v := (vI .i64 0)) (x_assign rfl) ?_
 refine sv (v := (vI .i64 0)) (x_assign rfl) ?_
 refine wpList_nil (X_then (hK1_ _ _ ?_))
 clear hK1_
 refine C_seq (fun K12_ hK12_ => C_reg ?_)
 refine sv (v := (Value.func (.func 86) #[] #[(vP (some ⟨b2_, 0, none⟩)), (vP (some ⟨b7_, 0, none⟩))])) (by kernel_rfl) ?_
 refine sv (v := (Value.func (.func 86) #[] #[(vP (some ⟨b2_, 0, none⟩)), (vP (some ⟨b7_, 0, none⟩))])) (x_assign rfl) ?_
 refine wpList_nil (X_then (hK12_ _ _ ?_))
 clear hK12_
 refine C_seq (fun K13_ hK13_ => ?_)
 refine A_start (S := fun w => Rd kb [(vS ka kl kc), (vI .i64 m), (vI .i64 n), gv] w ∧ MpRd K2 mb ([] : List ((Int × Int) × Value)) w ∧ Sub R (hp w)) (N := 7) foll rfl rfl ?_
 have H14_ := Holds.drew_ H9_
 have hq15_ := And.intro (Holds.rd H14_ 3 rfl) (And.intro (Holds.mprd H14_ 4 rfl) ((Holds.ro_at H14_ 2 rfl)))
 refine A_tk 0 (v := (vP (some ⟨kb, 0, none⟩))) rfl (by kernel_rfl) (fun w hS => x_move rfl) hq15_ ?_
 refine A_tk 1 (v := (vP (some ⟨kb, 0, none⟩))) rfl (by kernel_rfl) (fun w hS => by kernel_rfl) hq15_ ?_
 refine A_tk 2 (v := (vP (some ⟨kb, 3, none⟩))) rfl (by kernel_rfl) (fun w hS => by kernel_rfl) hq15_ ?_
 refine A_tk 3 (v := gv) rfl (by kernel_rfl) (fun w hS => x_load1 rfl Try.underlying102 rfl (hS.1 3 gv rfl)) hq15_ ?_
 obtain ⟨x16_, hx17_, hm18_⟩ := elem_at N 0 (by omega)
 have hp19_ := hg1 x16_ hm18_
 have hp20_ := hb2 x16_ hm18_
 have hg21_ := hg1 x16_ hm18_
 refine A_tk 4 (v := (vP (some ⟨(sb gv), so gv + (0 + 0), none⟩))) rfl (by kernel_rfl) (fun w hS => x_idxRS (v := gv) rfl h1 rfl Try.underlying102 z106 (by omega) (by omega) (by omega : _ = 0) rfl) hq15_ ?_
 refine A_tk 5 (v := (vI .i64 0)) rfl (by kernel_rfl) (fun w hS => x_assign rfl) hq15_ ?_
 refine A_tk 6 (v := (vP (some ⟨(sb gv), so gv + (0 + 0), none⟩))) rfl (by kernel_rfl) (fun w hS => x_assign rfl) hq15_ ?_
 refine A_done (by kernel_rfl) ?_
 refine (X_then (hK13_ _ _ ?_))
 clear hK13_
 refine C_seq (fun K22_ hK22_ => ?_)
 refine C_block ?_
 refine C_loop (γ := Nat) (fun c a__ w1__ => ∃ h : Env, a__ = mkA 54 (upd (upd (upd (upd (upd (upd h 0 (vP (some ⟨kb, 0, none⟩))) 4 (vP (some ⟨b2_, 0, none⟩))) 6 (vI .i64 (c : Int))) 7 (vI .i64 0)) 8 (Value.func (.func 86) #[] #[(vP (some ⟨b2_, 0, none⟩)), (vP (some ⟨b7_, 0, none⟩))])) 9 (vP (some ⟨(sb gv), so gv + (c * 4 + 0), none⟩))) [] ∧ Holds w1__ (cl b7_ 95 [(Value.map (some mb))] :: cl b2_ 2 [(vI .i64 at_)] :: ro R :: cl kb 104 [(vS ka kl kc), (vI .i64 m), (vI .i64 n), gv] :: mp K2 mb ([] : List ((Int × Int) × Value)) :: F) ∧ Same w w1__ ∧ (c < N.length) ∧ (cIdx (N.map GN.m) at_ = c + cIdx ((N.map GN.m).drop c) at_)) (fun c => N.length - c) (0) ⟨_, congrArg (fun e => mkA 54 e []) (ch (ch (ch (ch (ch (ch rfl rfl) rfl) (congrArg (vI .i64) ((by first | rfl | omega | (simp; done) | (simp; omega)) : 0 = (0 : Int)))) rfl) rfl) ((by first | rfl | omega | (simp; done) | (simp; omega)) : (vP (some ⟨(sb gv), so gv + (0 + 0), none⟩)) = (vP (some ⟨(sb gv), so gv + (0 * 4 + 0), none⟩)))), H14_, (Same.trans S11_ (Same.drew _)), (hn0), (by rw [List.drop_zero, Nat.zero_add])⟩ ?_
 rintro c _ w23_ ⟨h, rfl, H24_, S25_, hc, hin⟩
 obtain ⟨x26_, hx27_, hm28_⟩ := elem_at N c (by omega)
 have hne_ : c + 1 < N.length → 0 < x26_.l.length := fun h_ => hful c x26_ h_ hx27_
 have hg29_ := hg1 x26_ hm28_
 have hgx_ := hg1 x26_ hm28_
 have hlx_ := hb2 x26_ hm28_
 refine C_seq (fun K30_ hK30_ => ?_)
 refine C_seq (fun K31_ hK31_ => C_reg ?_)
 refine sv (v := (vI .i64 (c : Int))) (x_move rfl) ?_
 refine sv (v := (vP (some ⟨kb, 0, none⟩))) (x_move rfl) ?_
 refine sv (v := (vP (some ⟨kb, 0, none⟩))) (by kernel_rfl) ?_
 refine sv (v := (vP (some ⟨kb, 3, none⟩))) (by kernel_rfl) ?_
 refine sv (v := gv) (x_load1 rfl Try.underlying102 rfl ((Holds.rd H24_ 3 rfl) 3 gv rfl)) ?_
 refine sv (v := (vI .i64 ((List.length N) : Int))) (x_lenRS rfl h1 Try.underlying102) ?_
 refine sv (v := (vI .i64 (((List.length N) : Int) - 1))) (x_bin rfl rfl (ib_sub (IntWalk.i64_in _ (by omega)))) ?_
 refine sv (v := (vB (decide ((c : Int) < ((List.length N) : Int) - 1)))) (x_bin rfl rfl rfl) ?_
 refine wpList_nil (X_then (hK31_ _ _ ?_))
 clear hK31_
 refine C_cond (b := decide ((c : Int) < ((List.length N) : Int) - 1)) rfl (fun c32_t => ?_) (fun c32_f => ?_)
 ·have c32_tp : (c : Int) < ((List.length N) : Int) - 1 := of_decide_eq_true c32_t
  have hx0_ := hne_ (by omega)
  refine C_skip (X_then (hK30_ _ _ ?_))
  clear hK30_
  refine C_block ?_
  refine C_seq (fun K33_ hK33_ => ?_)
  refine C_seq (fun K34_ hK34_ => ?_)
  refine A_start (S := fun w => MpRd K2 mb ([] : List ((Int × Int) × Value)) w ∧ Sub R (hp w)) (N := 14) foll rfl rfl ?_
  have H35_ := Holds.drew_ H24_
  have hq36_ := And.intro (Holds.mprd H35_ 4 rfl) ((Holds.ro_at H35_ 2 rfl))
  refine A_tk 0 (v := (vP (some ⟨(sb gv), so gv + (c * 4 + 0), none⟩))) rfl (by kernel_rfl) (fun w hS => x_move rfl) hq36_ ?_
  refine A_tk 1 (v := (vP (some ⟨(sb gv), so gv + (c * 4 + 0), none⟩))) rfl (by kernel_rfl) (fun w hS => by kernel_rfl) hq36_ ?_
  refine A_tk 2 (v := (vP (some ⟨(sb gv), so gv + (c * 4 + 3), none⟩))) rfl (by kernel_rfl) (fun w hS => by kernel_rfl) hq36_ ?_
  refine A_tk 3 (v := x26_.revs) rfl (by kernel_rfl) (fun w hS => x_load1 rfl Try.underlying80 rfl (RC.cell (RS.rc h1) hS.2 (j := c * 4 + 3) (u := x26_.revs) (fm_cell GN.len hx27_ (i := 3) rfl))) hq36_ ?_
  refine A_tk 4 (v := (vP (some ⟨(sb gv), so gv + (c * 4 + 0), none⟩))) rfl (by kernel_rfl) (fun w hS => x_move rfl) hq36_ ?_
  refine A_tk 5 (v := (vP (some ⟨(sb gv), so gv + (c * 4 + 0), none⟩))) rfl (by kernel_rfl) (fun w hS => by kernel_rfl) hq36_ ?_
  refine A_tk 6 (v := (vP (some ⟨(sb gv), so gv + (c * 4 + 3), none⟩))) rfl (by kernel_rfl) (fun w hS => by kernel_rfl) hq36_ ?_
  refine A_tk 7 (v := x26_.revs) rfl (by kernel_rfl) (fun w hS => x_load1 rfl Try.underlying80 rfl (RC.cell (RS.rc h1) hS.2 (j := c * 4 + 3) (u := x26_.revs) (fm_cell GN.len hx27_ (i := 3) rfl))) hq36_ ?_
  refine A_tk 8 (v := (vI .i64 ((List.length x26_.l) : Int))) rfl (by kernel_rfl) (fun w hS => x_lenRS rfl hg29_ Try.underlying80) hq36_ ?_
  refine A_tk 9 (v := (vI .i64 (((List.length x26_.l) : Int) - 1))) rfl (by kernel_rfl) (fun w hS => x_bin rfl rfl (ib_sub (IntWalk.i64_in _ (by omega)))) hq36_ ?_
  obtain ⟨x37_, hx38_, hm39_⟩ := elem_at x26_.l ((((List.length x26_.l) : Int) - 1).toNat) (by omega)
  refine A_tk 10 (v := (vP (some ⟨(sb x26_.revs), so x26_.revs + (((((List.length x26_.l) : Int) - 1).toNat) * 2 + 0), none⟩))) rfl (by kernel_rfl) (fun w hS => x_idxRS (v := x26_.revs) rfl hg29_ rfl Try.underlying80 z58 (by omega) (by omega) (by omega : _ = (((List.length x26_.l) : Int) - 1).toNat) rfl) hq36_ ?_
  refine A_tk 11 (v := (vP (some ⟨(sb x26_.revs), so x26_.revs + (((((List.length x26_.l) : Int) - 1).toNat) * 2 + 0), none⟩))) rfl (by kernel_rfl) (fun w hS => by kernel_rfl) hq36_ ?_
  refine A_tk 12 (v := (vI .i64 x37_.main)) rfl (by kernel_rfl) (fun w hS => x_load1 rfl Try.underlying2 rfl (RC.cell (RS.rc hg29_) hS.2 (j := ((((List.length x26_.l) : Int) - 1).toNat) * 2 + 0) (u := (vI .i64 x37_.main)) (fm_cell RV.len hx38_ (i := 0) rfl))) hq36_ ?_
  refine A_tk 13 (v := (vI .i64 x37_.main)) rfl (by kernel_rfl) (fun w hS => x_assign rfl) hq36_ ?_
  refine A_done (by kernel_rfl) ?_
  refine (X_then (hK34_ _ _ ?_))
  clear hK34_
  refine C_seq (fun K40_ hK40_ => C_reg ?_)
  refine sv (v := (vI .i64 x37_.main)) (x_move rfl) ?_
  refine sv (v := (vI .i64 at_)) (x_load1 rfl Try.underlying2 rfl ((Holds.rd H35_ 1 rfl) 0 (vI .i64 at_) rfl)) ?_
  refine sv (v := (vB (decide (at_ ≤ x37_.main)))) (x_bin rfl rfl rfl) ?_
  refine wpList_nil (X_then (hK40_ _ _ ?_))
  clear hK40_
  refine C_cond (b := decide (at_ ≤ x37_.main)) rfl (fun c41_t => ?_) (fun c41_f => ?_)
  ·have c41_tp : at_ ≤ x37_.main := of_decide_eq_true c41_t
   refine C_exit (X_thenX (X_blkMiss rfl (X_thenX (X_blkHit ?_))))
   refine (X_then (hK22_ _ _ ?_))
   clear hK22_
   refine C_seq (fun K42_ hK42_ => C_reg ?_)
   refine sv (v := (vP (some ⟨(sb gv), so gv + (c * 4 + 0), none⟩))) (x_move rfl) ?_
   refine sv (v := (Value.func (.func 86) #[] #[(vP (some ⟨b2_, 0, none⟩)), (vP (some ⟨b7_, 0, none⟩))])) (x_move rfl) ?_
   have H48_ := ((Holds.bring (Holds.bring (Holds.bring (Holds.bring H35_ 4 rfl) 1 rfl) 2 rfl) 3 rfl) :)
   refine S_list (T_call (al := [(vP (some ⟨(sb gv), so gv + (c * 4 + 0), none⟩)), (Value.func (.func 86) #[] #[(vP (some ⟨b2_, 0, none⟩)), (vP (some ⟨b7_, 0, none⟩))])]) (pre := [cl b2_ 2 [(vI .i64 at_)], cl b7_ 95 [(Value.map (some mb))], mp K2 mb ([] : List ((Int × Int) × Value))]) rfl rfl cb71 (kWalkC R gv N c x26_ b2_ b7_ mb at_ h1 (hx27_) (hgx_) (hlx_)) H48_ ?_)
   rintro v43_ p52_ w49_ hq53_ S51_ H50_
   rcases hq53_ with ⟨rfl, rfl, he44_⟩ | ⟨y45_, rfl, rfl, he46_, he47_⟩
   ·skip
    have S54_ := Same.trans (Same.trans S25_ (Same.drew _)) S51_
    refine sv (v := (vI .i64 (-1))) (x_assign rfl) ?_
    refine wpList_nil (X_then (hK42_ _ _ ?_))
    clear hK42_
    refine C_seq (fun K56_ hK56_ => C_reg ?_)
    refine sv (v := (vI .i64 (c : Int))) (x_move rfl) ?_
    refine sv (v := (vI .i64 (-1))) (x_move rfl) ?_
    refine sv (v := (vI .i64 (c : Int))) (x_assign rfl) ?_
    refine sv (v := (vI .i64 (-1))) (x_assign rfl) ?_
    refine wpList_nil (X_then (hK56_ _ _ ?_))
    clear hK56_
    refine C_ret ?_
    refine R_any (v := (vT #[(vI .i64 (c : Int)), (vI .i64 (-1))])) (run_results2 rfl rfl rfl) ?_
    have H57_ : Holds w49_ (ro R :: cl kb 104 [(vS ka kl kc), (vI .i64 m), (vI .i64 n), gv] :: mp K2 mb ([] : List ((Int × Int) × Value)) :: F) := (Holds.pkF H50_ [0, 3, 2] 2 :)
    exact ⟨_, _, rfl, (.inl ⟨c, x26_, rfl, rfl, (cIdx_stop hx27_ c32_tp hx38_ (by omega) hin), (hx27_), (he44_)⟩), S54_, H57_⟩
   ·skip
    have S55_ := Same.trans (Same.trans S25_ (Same.drew _)) S51_
    refine sv (v := (vI .i64 ((rLastN x26_.l at_ x26_.l.length : Int) - 1))) (x_assign rfl) ?_
    refine wpList_nil (X_then (hK42_ _ _ ?_))
    clear hK42_
    refine C_seq (fun K58_ hK58_ => C_reg ?_)
    refine sv (v := (vI .i64 (c : Int))) (x_move rfl) ?_
    refine sv (v := (vI .i64 ((rLastN x26_.l at_ x26_.l.length : Int) - 1))) (x_move rfl) ?_
    refine sv (v := (vI .i64 (c : Int))) (x_assign rfl) ?_
    refine sv (v := (vI .i64 ((rLastN x26_.l at_ x26_.l.length : Int) - 1))) (x_assign rfl) ?_
    refine wpList_nil (X_then (hK58_ _ _ ?_))
    clear hK58_
    refine C_ret ?_
    refine R_any (v := (vT #[(vI .i64 (c : Int)), (vI .i64 ((rLastN x26_.l at_ x26_.l.length : Int) - 1))])) (run_results2 rfl rfl rfl) ?_
    have H59_ : Holds w49_ (ro R :: cl kb 104 [(vS ka kl kc), (vI .i64 m), (vI .i64 n), gv] :: mp K2 mb [((y45_.main, y45_.sub), vA #[])] :: F) := (Holds.pkF H50_ [0, 3, 2] 2 :)
    exact ⟨_, _, rfl, (.inr ⟨c, x26_, y45_, rfl, rfl, (cIdx_stop hx27_ c32_tp hx38_ (by omega) hin), (hx27_), (he46_), (he47_)⟩), S55_, H59_⟩
  ·have c41_fp : ¬ (at_ ≤ x37_.main) := of_decide_eq_false c41_f
   refine C_skip (X_then (hK33_ _ _ ?_))
   clear hK33_
   refine C_seq (fun K60_ hK60_ => C_reg ?_)
   refine sv (v := (vI .i64 (c : Int))) (x_move rfl) ?_
   refine sv (v := (vI .i64 ((c : Int) + 1))) (x_bin rfl rfl (ib_add (IntWalk.i64_in _ (by omega)))) ?_
   refine sv (v := (vI .i64 ((c : Int) + 1))) (x_assign rfl) ?_
   refine wpList_nil (X_then (hK60_ _ _ ?_))
   clear hK60_
   refine C_reg ?_
   refine sv (v := (vP (some ⟨kb, 0, none⟩))) (x_move rfl) ?_
   refine sv (v := (vP (some ⟨kb, 0, none⟩))) (by kernel_rfl) ?_
   refine sv (v := (vP (some ⟨kb, 3, none⟩))) (by kernel_rfl) ?_
   refine sv (v := gv) (x_load1 rfl Try.underlying102 rfl ((Holds.rd H35_ 3 rfl) 3 gv rfl)) ?_
   refine sv (v := (vI .i64 ((c : Int) + 1))) (x_move rfl) ?_
   obtain ⟨x61_, hx62_, hm63_⟩ := elem_at N (c + 1) (by omega)
   have hp64_ := hg1 x61_ hm63_
   have hp65_ := hb2 x61_ hm63_
   have hg66_ := hg1 x61_ hm63_
   refine sv (v := (vP (some ⟨(sb gv), so gv + ((c + 1) * 4 + 0), none⟩))) (x_idxRS (v := gv) rfl h1 rfl Try.underlying102 z106 (by omega) (by omega) (by omega : _ = c + 1) rfl) ?_
   refine sv (v := (vP (some ⟨(sb gv), so gv + ((c + 1) * 4 + 0), none⟩))) (x_assign rfl) ?_
   refine wpList_nil (X_blkN (X_then ?_))
   exact ⟨(c + 1), ⟨_, congrArg (fun e => mkA 54 e []) (ch (ch (ch (ch (ch (ch rfl rfl) rfl) (congrArg (vI .i64) ((by first | rfl | omega | (simp; done) | (simp; omega)) : (c : Int) + 1 = ((c + 1 : Nat) : Int)))) rfl) rfl) rfl), H35_, (Same.trans S25_ (Same.drew _)), (by first | assumption | omega | exact rfl), (cIdx_next hx27_ c32_tp hx38_ (by omega) hin)⟩, by first | omega | (dsimp only; omega) | (simp; omega)⟩
 ·have c32_fp : ¬ ((c : Int) < ((List.length N) : Int) - 1) := of_decide_eq_false c32_f
  refine C_exit (X_thenX (X_thenX (X_blkHit ?_)))
  refine (X_then (hK22_ _ _ ?_))
  clear hK22_
  refine C_seq (fun K67_ hK67_ => C_reg ?_)
  refine sv (v := (vP (some ⟨(sb gv), so gv + (c * 4 + 0), none⟩))) (x_move rfl) ?_
  refine sv (v := (Value.func (.func 86) #[] #[(vP (some ⟨b2_, 0, none⟩)), (vP (some ⟨b7_, 0, none⟩))])) (x_move rfl) ?_
  have H73_ := ((Holds.bring (Holds.bring (Holds.bring (Holds.bring H24_ 4 rfl) 1 rfl) 2 rfl) 3 rfl) :)
  refine S_list (T_call (al := [(vP (some ⟨(sb gv), so gv + (c * 4 + 0), none⟩)), (Value.func (.func 86) #[] #[(vP (some ⟨b2_, 0, none⟩)), (vP (some ⟨b7_, 0, none⟩))])]) (pre := [cl b2_ 2 [(vI .i64 at_)], cl b7_ 95 [(Value.map (some mb))], mp K2 mb ([] : List ((Int × Int) × Value))]) rfl rfl cb71 (kWalkC R gv N c x26_ b2_ b7_ mb at_ h1 (hx27_) (hgx_) (hlx_)) H73_ ?_)
  rintro v68_ p77_ w74_ hq78_ S76_ H75_
  rcases hq78_ with ⟨rfl, rfl, he69_⟩ | ⟨y70_, rfl, rfl, he71_, he72_⟩
  ·skip
   have S79_ := Same.trans S25_ S76_
   refine sv (v := (vI .i64 (-1))) (x_assign rfl) ?_
   refine wpList_nil (X_then (hK67_ _ _ ?_))
   clear hK67_
   refine C_seq (fun K81_ hK81_ => C_reg ?_)
   refine sv (v := (vI .i64 (c : Int))) (x_move rfl) ?_
   refine sv (v := (vI .i64 (-1))) (x_move rfl) ?_
   refine sv (v := (vI .i64 (c : Int))) (x_assign rfl) ?_
   refine sv (v := (vI .i64 (-1))) (x_assign rfl) ?_
   refine wpList_nil (X_then (hK81_ _ _ ?_))
   clear hK81_
   refine C_ret ?_
   refine R_any (v := (vT #[(vI .i64 (c : Int)), (vI .i64 (-1))])) (run_results2 rfl rfl rfl) ?_
   have H82_ : Holds w74_ (ro R :: cl kb 104 [(vS ka kl kc), (vI .i64 m), (vI .i64 n), gv] :: mp K2 mb ([] : List ((Int × Int) × Value)) :: F) := (Holds.pkF H75_ [0, 3, 2] 2 :)
   exact ⟨_, _, rfl, (.inl ⟨c, x26_, rfl, rfl, (cIdx_last hc c32_fp hin), (hx27_), (he69_)⟩), S79_, H82_⟩
  ·skip
   have S80_ := Same.trans S25_ S76_
   refine sv (v := (vI .i64 ((rLastN x26_.l at_ x26_.l.length : Int) - 1))) (x_assign rfl) ?_
   refine wpList_nil (X_then (hK67_ _ _ ?_))
   clear hK67_
   refine C_seq (fun K83_ hK83_ => C_reg ?_)
   refine sv (v := (vI .i64 (c : Int))) (x_move rfl) ?_
   refine sv (v := (vI .i64 ((rLastN x26_.l at_ x26_.l.length : Int) - 1))) (x_move rfl) ?_
   refine sv (v := (vI .i64 (c : Int))) (x_assign rfl) ?_
   refine sv (v := (vI .i64 ((rLastN x26_.l at_ x26_.l.length : Int) - 1))) (x_assign rfl) ?_
   refine wpList_nil (X_then (hK83_ _ _ ?_))
   clear hK83_
   refine C_ret ?_
   refine R_any (v := (vT #[(vI .i64 (c : Int)), (vI .i64 ((rLastN x26_.l at_ x26_.l.length : Int) - 1))])) (run_results2 rfl rfl rfl) ?_
   have H84_ : Holds w74_ (ro R :: cl kb 104 [(vS ka kl kc), (vI .i64 m), (vI .i64 n), gv] :: mp K2 mb [((y70_.main, y70_.sub), vA #[])] :: F) := (Holds.pkF H75_ [0, 3, 2] 2 :)
   exact ⟨_, _, rfl, (.inr ⟨c, x26_, y70_, rfl, rfl, (cIdx_last hc c32_fp hin), (hx27_), (he71_), (he72_)⟩), S80_, H84_⟩

theorem kDoC (R : HP) (kb : Nat) (ka : Option Addr) (kl kc : Nat) (m n : Int) (gv lv : Value) (N0 T : List GN) (ll : List RV) (at_ : Int) (mb : Nat) (hT : Tlk T lv ll) (hN : ∀ x ∈ N0, GOk R x) (hb1 : (N0 ++ T).length ≤ 100000) (hb2 : ∀ x ∈ N0 ++ T, x.l.length ≤ 100000) (hn0 : 0 < (N0 ++ T).length) (hful : ∀ (j : Nat) (x : GN), j + 1 < (N0 ++ T).length → (N0 ++ T)[j]? = some x → 0 < x.l.length) :
    Tri Try.prog 75 #[(vP (some ⟨kb, 0, none⟩)), (vI .i64 at_), (Value.map (some mb))] R [sl 106 4 gv (List.length (N0 ++ T)) ((N0 ++ T).flatMap GN.cells), sl 58 2 lv (List.length ll) (ll.flatMap RV.cells), cl kb 104 [(vS ka kl kc), (vI .i64 m), (vI .i64 n), gv], mp K2 mb ([] : List ((Int × Int) × Value))] (fun v__ post__ => (∃ (c : Nat) (x : GN), v__ = (vT #[(vI .i64 (c : Int)), (vI .i64 (-1))]) ∧ post__ = [sl 106 4 gv (List.length (N0 ++ T)) ((N0 ++ T).flatMap GN.cells), sl 58 2 lv (List.length ll) (ll.flatMap RV.cells), cl kb 104 [(vS ka kl kc), (vI .i64 m), (vI .i64 n), gv], mp K2 mb ([] : List ((Int × Int) × Value))] ∧ (cIdx ((N0 ++ T).map GN.m) at_ = c) ∧ ((N0 ++ T)[c]? = some x) ∧ (rLastN x.l at_ x.l.length = 0)) ∨ (∃ (c : Nat) (x : GN) (y : RV), v__ = (vT #[(vI .i64 (c : Int)), (vI .i64 ((rLastN x.l at_ x.l.length : Int) - 1))]) ∧ post__ = [sl 106 4 gv (List.length (N0 ++ T)) ((N0 ++ T).flatMap GN.cells), sl 58 2 lv (List.length ll) (ll.flatMap RV.cells), cl kb 104 [(vS ka kl kc), (vI .i64 m), (vI .i64 n), gv], mp K2 mb [((y.main, y.sub), vA #[])]] ∧ (cIdx ((N0 ++ T).map GN.m) at_ = c) ∧ ((N0 ++ T)[c]? = some x) ∧ (x.l[rLastN x.l at_ x.l.length - 1]? = some y) ∧ (0 < rLastN x.l at_ x.l.length))) := by
  refine (Tri.lend (fun h0 a0 d0 => Tri.lend (fun h1 a1 d1 => kDoCR (un (un R h0) h1) kb ka kl kc m n gv (N0 ++ T) at_ mb ((sl_RS a0 (Sub.un_right d0)).mono (Sub.un_left _ _)) (GOk_app hN (Sub.trans' (Sub.un_left R h0) (Sub.un_left _ h1)) hT (sl_RS a1 (Sub.un_right d1))) hb1 hb2 hn0 hful))).mono fun v post h => ?_
  obtain ⟨p1, rfl, p2, rfl, h⟩ := h
  rcases h with ⟨c, x, rfl, rfl, h⟩ | ⟨c, x, y, rfl, rfl, h⟩
  · exact .inl ⟨_, _, rfl, rfl, h⟩
  · exact .inr ⟨_, _, _, rfl, rfl, h⟩
end Go.Proofs.Ytiblemgccgbhoaa
set_option linter.unusedVariables false
set_option linter.unusedSimpArgs false
namespace Go.Proofs.Ytiblemgccgbhoaa
open Go Go.RowKit Gw
open Go.Value renaming int → vI, bool → vB, slice → vS, pointer → vP, agg → vA, tuple → vT

def iEmp : List GM → Bool
  | [g] => decide (g.l.length = 0)
  | _ => false
theorem iEmp_len {N : List GN} (h : ¬ (N.length : Int) = 1) : iEmp (N.map GN.m) = false := by
  match N, h with
  | [], _ => rfl
  | [x], h => exact absurd rfl h
  | _ :: _ :: _, _ => rfl
theorem iEmp_one {N : List GN} {x : GN} (h : (N.length : Int) = 1) (hx : N[0]? = some x) : iEmp (N.map GN.m) = decide (x.l.length = 0) := by
  rw [one_of h hx]; rfl
def kmap (L : List RV) : List ((Int × Int) × Value) := L.map fun r => ((r.main, r.sub), vA #[])
theorem kmap_rvk (L : List RV) : (kmap L).map rvk = L := by
  unfold kmap
  rw [List.map_map]
  exact (List.map_congr_left fun _ _ => rfl).trans (List.map_id L)
/-- What compacting at a number leaves. -/
def iCompact (G : List GM) (at_ : Int) : List GM :=
  match G.drop (cIdx G at_) with
  | [] => []
  | g :: r => ⟨g.ver, g.cm, g.cs, g.l.drop (rLastN g.l at_ g.l.length - 1)⟩ :: r
def iKeptC (G : List GM) (at_ : Int) : List RV :=
  match G[cIdx G at_]? with
  | none => []
  | some g => if rLastN g.l at_ g.l.length = 0 then [] else (g.l[rLastN g.l at_ g.l.length - 1]?).toList
def iKeptK (G : List GM) (at_ : Int) : List RV :=
  if iEmp G then [] else match G[cIdx G at_]? with
  | none => []
  | some g => if rLastN g.l at_ g.l.length = g.l.length ∧ cIdx G at_ + 1 ≠ G.length then [] else iKeptC G at_
section
variable {N M : List GN} {at_ : Int} {c : Nat} {x : GN} {y : RV}
theorem iKeptC_none (h : cIdx (N.map GN.m) at_ = c) (hx : N[c]? = some x) (h0 : rLastN x.l at_ x.l.length = 0) : iKeptC (N.map GN.m) at_ = [] := by
  unfold iKeptC
  rw [h, List.getElem?_map, hx]
  exact if_pos h0
theorem iKeptC_some (h : cIdx (N.map GN.m) at_ = c) (hx : N[c]? = some x) (hy : x.l[rLastN x.l at_ x.l.length - 1]? = some y) (h0 : 0 < rLastN x.l at_ x.l.length) : iKeptC (N.map GN.m) at_ = [y] := by
  unfold iKeptC
  rw [h, List.getElem?_map, hx]
  show (if rLastN x.l at_ x.l.length = 0 then [] else (x.l[rLastN x.l at_ x.l.length - 1]?).toList) = [y]
  rw [if_neg (by omega), hy]; rfl
theorem toList_len (o : Option RV) : o.toList.length ≤ 1 := by cases o <;> simp
theorem iKeptC_len (G : List GM) (at_ : Int) : (iKeptC G at_).length ≤ 1 := by
  unfold iKeptC
  split
  · exact Nat.zero_le _
  · split
    · exact Nat.zero_le _
    · exact toList_len _
theorem iKeptK_len (G : List GM) (at_ : Int) : (iKeptK G at_).length ≤ 1 := by
  unfold iKeptK
  split
  · exact Nat.zero_le _
  · split
    · exact Nat.zero_le _
    · split
      · exact Nat.zero_le _
      · exact iKeptC_len G at_
theorem iKeptK_emp (h : iEmp (N.map GN.m) = true) : iKeptK (N.map GN.m) at_ = [] := by
  unfold iKeptK; rw [if_pos h]
theorem iKeptK_out (he : iEmp (N.map GN.m) = false) (h : cIdx (N.map GN.m) at_ = c) (hx : N[c]? = some x) (h1 : rLastN x.l at_ x.l.length = x.l.length) (h2 : c + 1 ≠ N.length) : iKeptK (N.map GN.m) at_ = [] := by
  unfold iKeptK
  rw [if_neg (by rw [he]; decide), h, List.getElem?_map, hx]
  exact if_pos ⟨h1, by rw [List.length_map]; exact h2⟩
theorem iKeptK_in (he : iEmp (N.map GN.m) = false) (h : cIdx (N.map GN.m) at_ = c) (hx : N[c]? = some x) (h1 : ¬ (rLastN x.l at_ x.l.length = x.l.length ∧ c + 1 ≠ N.length)) : iKeptK (N.map GN.m) at_ = iKeptC (N.map GN.m) at_ := by
  unfold iKeptK
  rw [if_neg (by rw [he]; decide), h, List.getElem?_map, hx]
  exact if_neg (by rw [List.length_map]; exact h1)
theorem iCompact_at (h : cIdx (N.map GN.m) at_ = c) (hx : N[c]? = some x) (hM : M.map GN.m = ⟨x.ver, x.created_Main, x.created_Sub, x.l.drop (rLastN x.l at_ x.l.length - 1)⟩ :: (N.drop (c + 1)).map GN.m) : M.map GN.m = iCompact (N.map GN.m) at_ := by
  unfold iCompact
  rw [h, drop_at (l := N.map GN.m) (k := c) (x := x.m) (by rw [List.getElem?_map, hx]; rfl), hM]
  simp only [List.map_drop]
  rfl
theorem gset_in {A T : List GN} {x y : GN} {i : Nat} {v : Value} (hx : A[c]? = some x) (h : (GN.cells x).set i v = GN.cells y) (hi : i < 4) : ((A ++ T).flatMap GN.cells).set (c * 4 + i) v = (A.take c ++ y :: (A.drop (c + 1) ++ T)).flatMap GN.cells := by
  have hc := (List.getElem?_eq_some_iff.1 hx).1
  have e : A ++ T = A.take c ++ (x :: (A.drop (c + 1) ++ T)) := by rw [← List.cons_append, ← drop_at hx, ← List.append_assoc, List.take_append_drop]
  have hl : ((A.take c).flatMap GN.cells).length = c * 4 := by rw [fm_len GN.len, List.length_take, Nat.min_eq_left (by omega)]
  rw [e, List.flatMap_append, List.flatMap_append, List.set_append_right _ _ (by omega), hl, Nat.add_sub_cancel_left, List.flatMap_cons, List.flatMap_cons, List.set_append_left _ _ (by rw [GN.len]; exact hi), h]
theorem gdrop_in {A T : List GN} {y : GN} (hc : c ≤ A.length) : ((A.take c ++ y :: T).flatMap GN.cells).drop (c * 4) = (y :: T).flatMap GN.cells := by
  rw [fm_dropk GN.len, List.drop_append, List.length_take, Nat.min_eq_left hc, Nat.sub_self, List.drop_zero, List.drop_eq_nil_of_le (by rw [List.length_take]; omega), List.nil_append]
theorem gdrop_app {A T : List GN} (hc : c ≤ A.length) : ((A ++ T).flatMap GN.cells).drop (c * 4) = (A.drop c ++ T).flatMap GN.cells := by
  rw [fm_dropk GN.len, List.drop_append_of_le_length hc]
end


set_option maxHeartbeats 1600000 in
theorem kEmpR (R : HP) (kb : Nat) (ka : Option Addr) (kl kc : Nat) (m n : Int) (gv : Value) (N : List GN) (h1 : RS R 4 gv (List.length N) (N.flatMap GN.cells)) (hg1 : ∀ x ∈ N, GOk R x) (hb1 : N.length ≤ 100000) (hb2 : ∀ x ∈ N, x.l.length ≤ 100000) :
    Tri Try.prog 64 #[(vP (some ⟨kb, 0, none⟩))] R [cl kb 104 [(vS ka kl kc), (vI .i64 m), (vI .i64 n), gv]] (fun v__ post__ => v__ = (vB (iEmp (N.map GN.m))) ∧ post__ = [cl kb 104 [(vS ka kl kc), (vI .i64 m), (vI .i64 n), gv]]) := by
 refine Tri.into (n := 17) (al := [(vP (some ⟨kb, 0, none⟩))]) Try.func64 rfl Try.ntmps64 rfl rfl fun w F H => ?_
 refine C_seq (fun K1_ hK1_ => C_reg ?_)
 refine sv (v := (vB false)) (x_assign rfl) ?_
 refine wpList_nil (X_then (hK1_ _ _ ?_))
 clear hK1_
 refine C_seq (fun K2_ hK2_ => C_reg ?_)
 refine sv (v := (vP (some ⟨kb, 0, none⟩))) (x_move rfl) ?_
 refine sv (v := (vP (some ⟨kb, 0, none⟩))) (by kernel_rfl) ?_
 refine sv (v := (vP (some ⟨kb, 3, none⟩))) (by kernel_rfl) ?_
 refine sv (v := gv) (x_load1 rfl Try.underlying102 rfl ((Holds.rd H 1 rfl) 3 gv rfl)) ?_
 refine sv (v := (vI .i64 ((List.length N) : Int))) (x_lenRS rfl h1 Try.underlying102) ?_
 refine sv (v := (vB (decide (((List.length N) : Int) = 1)))) (x_bin rfl rfl rfl) ?_
 refine sv (v := (vB (decide (((List.length N) : Int) = 1)))) (x_move rfl) ?_
 rcases Bool.eq_false_or_eq_true (decide (((List.length N) : Int) = 1)) with c3_t | c3_f
 ·have c3_tp : ((List.length N) : Int) = 1 := of_decide_eq_true c3_t
  refine S_yes (j := 6) (dj := 9) (b := true) rfl rfl (congrArg vB c3_t) (T_val (v := (vP (some ⟨kb, 0, none⟩))) (x_move rfl) ?_)
  refine S_yes (j := 6) (dj := 9) (b := true) rfl rfl (congrArg vB c3_t) (T_val (v := (vP (some ⟨kb, 0, none⟩))) (by kernel_rfl) ?_)
  refine S_yes (j := 6) (dj := 9) (b := true) rfl rfl (congrArg vB c3_t) (T_val (v := (vP (some ⟨kb, 3, none⟩))) (by kernel_rfl) ?_)
  refine S_yes (j := 6) (dj := 9) (b := true) rfl rfl (congrArg vB c3_t) (T_val (v := gv) (x_load1 rfl Try.underlying102 rfl ((Holds.rd H 1 rfl) 3 gv rfl)) ?_)
  obtain ⟨x4_, hx5_, hm6_⟩ := elem_at N 0 (by omega)
  have hp7_ := hg1 x4_ hm6_
  have hp8_ := hb2 x4_ hm6_
  have hg9_ := hg1 x4_ hm6_
  refine S_yes (j := 6) (dj := 9) (b := true) rfl rfl (congrArg vB c3_t) (T_val (v := (vP (some ⟨(sb gv), so gv + (0 + 0), none⟩))) (x_idxRS (v := gv) rfl h1 rfl Try.underlying102 z106 (by omega) (by omega) (by omega : _ = 0) rfl) ?_)
  refine S_yes (j := 6) (dj := 9) (b := true) rfl rfl (congrArg vB c3_t) (T_callW (al := [(vP (some ⟨(sb gv), so gv + (0 + 0), none⟩))]) rfl rfl cb69 (Calls.into (n := 13) (al := [(vP (some ⟨(sb gv), so gv + (0 + 0), none⟩))]) Try.func69 rfl Try.ntmps69 rfl rfl ?_))
  refine C_seq (fun K10_ hK10_ => C_reg ?_)
  refine sv (v := (vB false)) (x_assign rfl) ?_
  refine wpList_nil (X_then (hK10_ _ _ ?_))
  clear hK10_
  refine C_seq (fun K11_ hK11_ => C_reg ?_)
  refine sv (v := (vP (some ⟨(sb gv), so gv + (0 + 0), none⟩))) (x_move rfl) ?_
  refine sv (v := (vB false)) (by kernel_rfl) ?_
  refine sv (v := (vB false)) (x_move rfl) ?_
  refine S_yes (j := 2) (dj := 5) (b := false) rfl rfl rfl (T_val (v := (vP (some ⟨(sb gv), so gv + (0 + 0), none⟩))) (x_move rfl) ?_)
  refine S_yes (j := 2) (dj := 5) (b := false) rfl rfl rfl (T_val (v := (vP (some ⟨(sb gv), so gv + (0 + 0), none⟩))) (by kernel_rfl) ?_)
  refine S_yes (j := 2) (dj := 5) (b := false) rfl rfl rfl (T_val (v := (vP (some ⟨(sb gv), so gv + (0 + 3), none⟩))) (by kernel_rfl) ?_)
  refine S_yes (j := 2) (dj := 5) (b := false) rfl rfl rfl (T_val (v := x4_.revs) (x_load1 rfl Try.underlying80 rfl (RC.cell (RS.rc h1) (Holds.ro_at H 0 rfl) (j := 0 + 3) (u := x4_.revs) (fm_cell GN.len hx5_ (i := 3) rfl))) ?_)
  refine S_yes (j := 2) (dj := 5) (b := false) rfl rfl rfl (T_val (v := (vI .i64 ((List.length x4_.l) : Int))) (x_lenRS rfl hg9_ Try.underlying80) ?_)
  refine S_yes (j := 2) (dj := 5) (b := false) rfl rfl rfl (T_val (v := (vB (decide (((List.length x4_.l) : Int) = 0)))) (x_bin rfl rfl rfl) ?_)
  refine S_list (T_pickF (v := (vB (decide (((List.length x4_.l) : Int) = 0)))) rfl rfl ?_)
  refine sv (v := (vB (decide (((List.length x4_.l) : Int) = 0)))) (x_assign rfl) ?_
  refine wpList_nil (X_then (hK11_ _ _ ?_))
  clear hK11_
  refine C_ret ?_
  refine R_any (v := (vB (decide (((List.length x4_.l) : Int) = 0)))) (run_results1 rfl rfl) ⟨_, rfl, ?_⟩
  refine S_list (T_pickT (v := (vB (decide (((List.length x4_.l) : Int) = 0)))) (congrArg vB c3_t) rfl ?_)
  refine sv (v := (vB (decide (((List.length x4_.l) : Int) = 0)))) (x_assign rfl) ?_
  refine wpList_nil (X_then (hK2_ _ _ ?_))
  clear hK2_
  refine C_ret ?_
  refine R_any (v := (vB (decide (((List.length x4_.l) : Int) = 0)))) (run_results1 rfl rfl) ?_
  exact ⟨_, _, rfl, ⟨(congrArg vB ((by rw [iEmp_one c3_tp hx5_]; exact decide_eq_decide.2 (by omega)) : (decide (((List.length x4_.l) : Int) = 0)) = (iEmp (N.map GN.m)))), rfl⟩, (Same.refl w), H⟩
 ·have c3_fp : ¬ (((List.length N) : Int) = 1) := of_decide_eq_false c3_f
  refine S_no (j := 6) (dj := 9) (b := false) rfl rfl (congrArg vB c3_f) (by decide) ?_
  refine S_no (j := 6) (dj := 9) (b := false) rfl rfl (congrArg vB c3_f) (by decide) ?_
  refine S_no (j := 6) (dj := 9) (b := false) rfl rfl (congrArg vB c3_f) (by decide) ?_
  refine S_no (j := 6) (dj := 9) (b := false) rfl rfl (congrArg vB c3_f) (by decide) ?_
  refine S_no (j := 6) (dj := 9) (b := false) rfl rfl (congrArg vB c3_f) (by decide) ?_
  refine S_no (j := 6) (dj := 9) (b := false) rfl rfl (congrArg vB c3_f) (by decide) ?_
  refine S_list (T_pickF (v := (vB false)) (congrArg vB c3_f) rfl ?_)
  refine sv (v := (vB false)) (x_assign rfl) ?_
  refine wpList_nil (X_then (hK2_ _ _ ?_))
  clear hK2_
  refine C_ret ?_
  refine R_any (v := (vB false)) (run_results1 rfl rfl) ?_
  exact ⟨_, _, rfl, ⟨(congrArg vB ((iEmp_len c3_fp).symm : false = (iEmp (N.map GN.m)))), rfl⟩, (Same.refl w), H⟩

theorem kEmp (R : HP) (kb : Nat) (ka : Option Addr) (kl kc : Nat) (m n : Int) (gv lv : Value) (N0 T : List GN) (ll : List RV) (hT : Tlk T lv ll) (hN : ∀ x ∈ N0, GOk R x) (hb1 : (N0 ++ T).length ≤ 100000) (hb2 : ∀ x ∈ N0 ++ T, x.l.length ≤ 100000) :
    Tri Try.prog 64 #[(vP (some ⟨kb, 0, none⟩))] R [sl 106 4 gv (List.length (N0 ++ T)) ((N0 ++ T).flatMap GN.cells), sl 58 2 lv (List.length ll) (ll.flatMap RV.cells), cl kb 104 [(vS ka kl kc), (vI .i64 m), (vI .i64 n), gv]] (fun v__ post__ => v__ = (vB (iEmp ((N0 ++ T).map GN.m))) ∧ post__ = [sl 106 4 gv (List.length (N0 ++ T)) ((N0 ++ T).flatMap GN.cells), sl 58 2 lv (List.length ll) (ll.flatMap RV.cells), cl kb 104 [(vS ka kl kc), (vI .i64 m), (vI .i64 n), gv]]) := by
  refine (Tri.lend (fun h0 a0 d0 => Tri.lend (fun h1 a1 d1 => kEmpR (un (un R h0) h1) kb ka kl kc m n gv (N0 ++ T)  ((sl_RS a0 (Sub.un_right d0)).mono (Sub.un_left _ _)) (GOk_app hN (Sub.trans' (Sub.un_left R h0) (Sub.un_left _ h1)) hT (sl_RS a1 (Sub.un_right d1))) hb1 hb2 ))).mono fun v post h => ?_
  obtain ⟨p1, rfl, p2, rfl, h⟩ := h
  obtain ⟨rfl, rfl⟩ := h
  exact ⟨rfl, rfl⟩

set_option maxHeartbeats 8000000 in
theorem kCompactN (R : HP) (kb : Nat) (ka : Option Addr) (kl kc : Nat) (m n : Int) (gv lv : Value) (N0 T : List GN) (ll : List RV) (at_ : Int) (mb : Nat) (hT : Tlk T lv ll) (hN : ∀ x ∈ N0, GOk R x) (hb1 : (N0 ++ T).length ≤ 100000) (hb2 : ∀ x ∈ N0 ++ T, x.l.length ≤ 100000) (hTN : T = [] → N0 = []) (hem : iEmp ((N0 ++ T).map GN.m) = false) (hn0 : 0 < (N0 ++ T).length) (hful : ∀ (j : Nat) (x : GN), j + 1 < (N0 ++ T).length → (N0 ++ T)[j]? = some x → 0 < x.l.length) (hj : cIdx ((N0 ++ T).map GN.m) at_ < N0.length) :
    Tri Try.prog 62 #[(vP (some ⟨kb, 0, none⟩)), (vP none), (vI .i64 at_), (Value.map (some mb))] R [cl kb 104 [(vS ka kl kc), (vI .i64 m), (vI .i64 n), gv], sl 106 4 gv (List.length (N0 ++ T)) ((N0 ++ T).flatMap GN.cells), sl 58 2 lv (List.length ll) (ll.flatMap RV.cells), mp K2 mb ([] : List ((Int × Int) × Value))] (fun v__ post__ => ∃ (gv' lv' : Value) (N0' T' : List GN) (ll' : List RV), v__ = (vT #[]) ∧ post__ = [cl kb 104 [(vS ka kl kc), (vI .i64 m), (vI .i64 n), gv'], sl 106 4 gv' (List.length (N0' ++ T')) ((N0' ++ T').flatMap GN.cells), sl 58 2 lv' (List.length ll') (ll'.flatMap RV.cells), mp K2 mb (kmap (iKeptC ((N0 ++ T).map GN.m) at_))] ∧ ((N0' ++ T').map GN.m = iCompact ((N0 ++ T).map GN.m) at_) ∧ (Tlk T' lv' ll') ∧ (T' = [] → N0' = []) ∧ (∀ x ∈ N0', GOk R x)) := by
 refine Tri.into (n := 50) (al := [(vP (some ⟨kb, 0, none⟩)), (vP none), (vI .i64 at_), (Value.map (some mb))]) Try.func62 rfl Try.ntmps62 rfl rfl fun w F H => ?_
 refine C_seq (fun K1_ hK1_ => ?_)
 refine C_seq (fun K2_ hK2_ => C_reg ?_)
 refine sv (v := (vP (some ⟨kb, 0, none⟩))) (x_move rfl) ?_
 have H4_ := ((Holds.bring (Holds.bring (Holds.bring (Holds.bring H 1 rfl) 3 rfl) 3 rfl) 3 rfl) :)
 refine S_list (T_call (al := [(vP (some ⟨kb, 0, none⟩))]) (pre := [sl 106 4 gv (List.length (N0 ++ T)) ((N0 ++ T).flatMap GN.cells), sl 58 2 lv (List.length ll) (ll.flatMap RV.cells), cl kb 104 [(vS ka kl kc), (vI .i64 m), (vI .i64 n), gv]]) rfl rfl cb64 (kEmp R kb ka kl kc m n gv lv N0 T ll (by first | assumption | omega) (by first | assumption | omega) (by first | assumption | omega) (by first | assumption | omega)) H4_ ?_)
 rintro v3_ p8_ w5_ ⟨rfl, rfl⟩ S7_ H6_
 have S9_ := Same.trans (Same.refl w) S7_
 refine wpList_nil (X_then (hK2_ _ _ ?_))
 clear hK2_
 refine C_cond (b := iEmp ((N0 ++ T).map GN.m)) rfl (fun c10_t => ?_) (fun c10_f => ?_)
 ·skip
  rw [hem] at c10_t; cases c10_t
 ·skip
  refine C_skip (X_then (hK1_ _ _ ?_))
  clear hK1_
  refine C_seq (fun K11_ hK11_ => C_reg ?_)
  refine sv (v := (vP (some ⟨kb, 0, none⟩))) (x_move rfl) ?_
  refine sv (v := (vI .i64 at_)) (x_move rfl) ?_
  refine sv (v := (Value.map (some mb))) (x_move rfl) ?_
  refine S_list (T_call (al := [(vP (some ⟨kb, 0, none⟩)), (vI .i64 at_), (Value.map (some mb))]) (pre := [sl 106 4 gv (List.length (N0 ++ T)) ((N0 ++ T).flatMap GN.cells), sl 58 2 lv (List.length ll) (ll.flatMap RV.cells), cl kb 104 [(vS ka kl kc), (vI .i64 m), (vI .i64 n), gv], mp K2 mb ([] : List ((Int × Int) × Value))]) rfl rfl cb75 (kDoC R kb ka kl kc m n gv lv N0 T ll at_ mb (by first | assumption | omega) (by first | assumption | omega) (by first | assumption | omega) (by first | assumption | omega) (by first | assumption | omega) (by first | assumption | omega)) H6_ ?_)
  rintro v12_ p28_ w25_ hq29_ S27_ H26_
  rcases hq29_ with ⟨c13_, x14_, rfl, rfl, he15_, he16_, he17_⟩ | ⟨c18_, x19_, y20_, rfl, rfl, he21_, he22_, he23_, he24_⟩
  ·skip
   have S30_ := Same.trans S9_ S27_
   have hcl_ : c13_ < N0.length := by have h_ := hj; rw [he15_] at h_; exact h_
   have hxN_ : N0[c13_]? = some x14_ := by have h_ := he16_; rw [List.getElem?_append_left hcl_] at h_; exact h_
   have hxm_ := List.mem_of_getElem? hxN_
   have hxg_ := hN x14_ hxm_
   have hcT_ : 0 < T.length := List.length_pos_iff.2 (fun h_ => by have h2_ := hTN h_; rw [h2_] at hcl_; simp at hcl_)
   have hlT_ : (N0 ++ T).length = N0.length + T.length := List.length_append
   have hx0_ := hful c13_ x14_ (by omega) he16_
   have hrl_ := rLastN_le x14_.l at_ x14_.l.length
   have hxb_ := hb2 x14_ (List.mem_of_getElem? he16_)
   refine sv (v := (vT #[(vI .i64 (c13_ : Int)), (vI .i64 (-1))])) (x_move rfl) ?_
   refine sv (v := (vI .i64 (c13_ : Int))) (by kernel_rfl) ?_
   refine sv (v := (vI .i64 (-1))) (by kernel_rfl) ?_
   refine sv (v := (vI .i64 (c13_ : Int))) (x_assign rfl) ?_
   refine sv (v := (vI .i64 (-1))) (x_assign rfl) ?_
   refine wpList_nil (X_then (hK11_ _ _ ?_))
   clear hK11_
   refine C_seq (fun K32_ hK32_ => C_reg ?_)
   refine sv (v := (vP (some ⟨kb, 0, none⟩))) (x_move rfl) ?_
   refine sv (v := (vP (some ⟨kb, 0, none⟩))) (by kernel_rfl) ?_
   refine sv (v := (vP (some ⟨kb, 3, none⟩))) (by kernel_rfl) ?_
   refine sv (v := gv) (x_load1 rfl Try.underlying102 rfl ((Holds.rd H26_ 3 rfl) 3 gv rfl)) ?_
   refine sv (v := (vI .i64 (c13_ : Int))) (x_move rfl) ?_
   have hr33_ := Holds.sl_RSw H26_ 1 rfl
   refine sv (v := (vP (some ⟨(sb gv), so gv + (c13_ * 4 + 0), none⟩))) (x_idxSlR (v := gv) rfl hr33_ rfl Try.underlying102 z106 (by omega) (by omega) (by omega : _ = c13_) rfl) ?_
   refine sv (v := (vP (some ⟨(sb gv), so gv + (c13_ * 4 + 0), none⟩))) (x_assign rfl) ?_
   refine wpList_nil (X_then (hK32_ _ _ ?_))
   clear hK32_
   refine C_seq (fun K34_ hK34_ => ?_)
   refine C_seq (fun K35_ hK35_ => C_reg ?_)
   refine sv (v := (vP (some ⟨(sb gv), so gv + (c13_ * 4 + 0), none⟩))) (x_move rfl) ?_
   refine S_list (T_callW (al := [(vP (some ⟨(sb gv), so gv + (c13_ * 4 + 0), none⟩))]) rfl rfl cb69 (Calls.into (n := 13) (al := [(vP (some ⟨(sb gv), so gv + (c13_ * 4 + 0), none⟩))]) Try.func69 rfl Try.ntmps69 rfl rfl ?_))
   refine C_seq (fun K36_ hK36_ => C_reg ?_)
   refine sv (v := (vB false)) (x_assign rfl) ?_
   refine wpList_nil (X_then (hK36_ _ _ ?_))
   clear hK36_
   refine C_seq (fun K37_ hK37_ => C_reg ?_)
   refine sv (v := (vP (some ⟨(sb gv), so gv + (c13_ * 4 + 0), none⟩))) (x_move rfl) ?_
   refine sv (v := (vB false)) (by kernel_rfl) ?_
   refine sv (v := (vB false)) (x_move rfl) ?_
   refine S_yes (j := 2) (dj := 5) (b := false) rfl rfl rfl (T_val (v := (vP (some ⟨(sb gv), so gv + (c13_ * 4 + 0), none⟩))) (x_move rfl) ?_)
   refine S_yes (j := 2) (dj := 5) (b := false) rfl rfl rfl (T_val (v := (vP (some ⟨(sb gv), so gv + (c13_ * 4 + 0), none⟩))) (by kernel_rfl) ?_)
   refine S_yes (j := 2) (dj := 5) (b := false) rfl rfl rfl (T_val (v := (vP (some ⟨(sb gv), so gv + (c13_ * 4 + 3), none⟩))) (by kernel_rfl) ?_)
   refine S_yes (j := 2) (dj := 5) (b := false) rfl rfl rfl (T_val (v := x14_.revs) (x_load1 rfl Try.underlying80 rfl ((Holds.slrd H26_ 1 rfl) _ _ (fm_cell GN.len he16_ (i := 3) rfl))) ?_)
   refine S_yes (j := 2) (dj := 5) (b := false) rfl rfl rfl (T_val (v := (vI .i64 ((List.length x14_.l) : Int))) (x_lenRS rfl hxg_ Try.underlying80) ?_)
   refine S_yes (j := 2) (dj := 5) (b := false) rfl rfl rfl (T_val (v := (vB (decide (((List.length x14_.l) : Int) = 0)))) (x_bin rfl rfl rfl) ?_)
   refine S_list (T_pickF (v := (vB (decide (((List.length x14_.l) : Int) = 0)))) rfl rfl ?_)
   refine sv (v := (vB (decide (((List.length x14_.l) : Int) = 0)))) (x_assign rfl) ?_
   refine wpList_nil (X_then (hK37_ _ _ ?_))
   clear hK37_
   refine C_ret ?_
   refine R_any (v := (vB (decide (((List.length x14_.l) : Int) = 0)))) (run_results1 rfl rfl) ⟨_, rfl, ?_⟩
   refine sv (v := (vB (decide (¬ (((List.length x14_.l) : Int) = 0))))) (x_notP rfl) ?_
   refine wpList_nil (X_then (hK35_ _ _ ?_))
   clear hK35_
   refine C_cond (b := decide (¬ (((List.length x14_.l) : Int) = 0))) rfl (fun c38_t => ?_) (fun c38_f => ?_)
   ·have c38_tp : ¬ (((List.length x14_.l) : Int) = 0) := of_decide_eq_true c38_t
    refine C_seq (fun K39_ hK39_ => C_reg ?_)
    refine sv (v := (vI .i64 (-1))) (x_move rfl) ?_
    refine sv (v := (vB false)) (x_bin rfl rfl rfl) ?_
    refine wpList_nil (X_then (hK39_ _ _ ?_))
    clear hK39_
    refine C_condF rfl ?_
    refine C_skip (X_then (hK34_ _ _ ?_))
    clear hK34_
    refine C_reg ?_
    refine sv (v := (vP (some ⟨kb, 0, none⟩))) (x_move rfl) ?_
    refine sv (v := (vP (some ⟨kb, 0, none⟩))) (x_move rfl) ?_
    refine sv (v := (vP (some ⟨kb, 0, none⟩))) (by kernel_rfl) ?_
    refine sv (v := (vP (some ⟨kb, 3, none⟩))) (by kernel_rfl) ?_
    refine sv (v := gv) (x_load1 rfl Try.underlying102 rfl ((Holds.rd H26_ 3 rfl) 3 gv rfl)) ?_
    refine sv (v := (vI .i64 (c13_ : Int))) (x_move rfl) ?_
    refine sv (v := ((slc gv c13_ (List.length (N0 ++ T)) 4))) (x_sliceRS (l := c13_) (h := (List.length (N0 ++ T))) rfl hr33_ Try.underlying102 z106 (by omega) rfl ⟨_, _, rfl, by omega, by omega, by omega⟩) ?_
    have H40_ := Holds.sl_drop (k := c13_) H26_ 1 rfl (by omega)
    have H41_ := Holds.resl H40_ 1 rfl (gdrop_app (by omega) : List.drop (c13_ * 4) ((N0 ++ T).flatMap GN.cells) = ((List.drop c13_ N0) ++ T).flatMap GN.cells) (by simp; omega : (List.length (N0 ++ T)) - c13_ = (List.length ((List.drop c13_ N0) ++ T)))
    refine sv (v := (vP (some ⟨kb, 0, none⟩))) (by kernel_rfl) ?_
    refine sv (v := (vP (some ⟨kb, 3, none⟩))) (by kernel_rfl) ?_
    refine S_list0 (T_store1 (v := ((slc gv c13_ (List.length (N0 ++ T)) 4))) rfl rfl z102 (Holds.sl_one H41_ 1 rfl) H41_ 3 rfl (Nat.le_of_ble_eq_true (by rfl)) ?_)
    intro w42_ S44_ H43_
    have S45_ := Same.trans S30_ S44_
    refine wpList_nil ?_
    refine R_0 rfl ?_
    have eH46_ : mp K2 mb ([] : List ((Int × Int) × Value)) = mp K2 mb (kmap (iKeptC ((N0 ++ T).map GN.m) at_)) := by rw [iKeptC_none he15_ he16_ he17_]; rfl
    have H46_ : Holds w42_ (ro R :: sl 106 4 (slc gv c13_ (List.length (N0 ++ T)) 4) (List.length ((List.drop c13_ N0) ++ T)) (((List.drop c13_ N0) ++ T).flatMap GN.cells) :: sl 58 2 lv (List.length ll) (ll.flatMap RV.cells) :: cl kb 104 [(vS ka kl kc), (vI .i64 m), (vI .i64 n), ((slc gv c13_ (List.length (N0 ++ T)) 4))] :: mp K2 mb (kmap (iKeptC ((N0 ++ T).map GN.m) at_)) :: F) := cast1 (P := fun c__ => Holds w42_ (ro R :: sl 106 4 (slc gv c13_ (List.length (N0 ++ T)) 4) (List.length ((List.drop c13_ N0) ++ T)) (((List.drop c13_ N0) ++ T).flatMap GN.cells) :: sl 58 2 lv (List.length ll) (ll.flatMap RV.cells) :: cl kb 104 [(vS ka kl kc), (vI .i64 m), (vI .i64 n), ((slc gv c13_ (List.length (N0 ++ T)) 4))] :: c__ :: F)) eH46_ H43_
    have H47_ : Holds w42_ (ro R :: cl kb 104 [(vS ka kl kc), (vI .i64 m), (vI .i64 n), ((slc gv c13_ (List.length (N0 ++ T)) 4))] :: sl 106 4 (slc gv c13_ (List.length (N0 ++ T)) 4) (List.length ((List.drop c13_ N0) ++ T)) (((List.drop c13_ N0) ++ T).flatMap GN.cells) :: sl 58 2 lv (List.length ll) (ll.flatMap RV.cells) :: mp K2 mb (kmap (iKeptC ((N0 ++ T).map GN.m) at_)) :: F) := (Holds.pkF H46_ [0, 2, 0, 0, 0] 0 :)
    exact ⟨_, _, rfl, ⟨(slc gv c13_ (List.length (N0 ++ T)) 4), lv, (List.drop c13_ N0), T, ll, rfl, rfl, (iCompact_at he15_ he16_ (by rw [he17_, Nat.zero_sub, List.drop_zero, List.drop_append_of_le_length (by omega), drop_at hxN_]; rfl)), (hT), (fun h_ => by rw [h_] at hcT_; simp at hcT_), (fun x_ h_ => hN x_ (List.mem_of_mem_drop h_))⟩, S45_, H47_⟩
   ·have c38_fp : ¬ (¬ (((List.length x14_.l) : Int) = 0)) := of_decide_eq_false c38_f
    omega
  ·skip
   have S31_ := Same.trans S9_ S27_
   have hcl_ : c18_ < N0.length := by have h_ := hj; rw [he21_] at h_; exact h_
   have hxN_ : N0[c18_]? = some x19_ := by have h_ := he22_; rw [List.getElem?_append_left hcl_] at h_; exact h_
   have hxm_ := List.mem_of_getElem? hxN_
   have hxg_ := hN x19_ hxm_
   have hcT_ : 0 < T.length := List.length_pos_iff.2 (fun h_ => by have h2_ := hTN h_; rw [h2_] at hcl_; simp at hcl_)
   have hlT_ : (N0 ++ T).length = N0.length + T.length := List.length_append
   have hx0_ := hful c18_ x19_ (by omega) he22_
   have hrl_ := rLastN_le x19_.l at_ x19_.l.length
   have hxb_ := hb2 x19_ (List.mem_of_getElem? he22_)
   refine sv (v := (vT #[(vI .i64 (c18_ : Int)), (vI .i64 ((rLastN x19_.l at_ x19_.l.length : Int) - 1))])) (x_move rfl) ?_
   refine sv (v := (vI .i64 (c18_ : Int))) (by kernel_rfl) ?_
   refine sv (v := (vI .i64 ((rLastN x19_.l at_ x19_.l.length : Int) - 1))) (by kernel_rfl) ?_
   refine sv (v := (vI .i64 (c18_ : Int))) (x_assign rfl) ?_
   refine sv (v := (vI .i64 ((rLastN x19_.l at_ x19_.l.length : Int) - 1))) (x_assign rfl) ?_
   refine wpList_nil (X_then (hK11_ _ _ ?_))
   clear hK11_
   refine C_seq (fun K48_ hK48_ => C_reg ?_)
   refine sv (v := (vP (some ⟨kb, 0, none⟩))) (x_move rfl) ?_
   refine sv (v := (vP (some ⟨kb, 0, none⟩))) (by kernel_rfl) ?_
   refine sv (v := (vP (some ⟨kb, 3, none⟩))) (by kernel_rfl) ?_
   refine sv (v := gv) (x_load1 rfl Try.underlying102 rfl ((Holds.rd H26_ 3 rfl) 3 gv rfl)) ?_
   refine sv (v := (vI .i64 (c18_ : Int))) (x_move rfl) ?_
   have hr49_ := Holds.sl_RSw H26_ 1 rfl
   refine sv (v := (vP (some ⟨(sb gv), so gv + (c18_ * 4 + 0), none⟩))) (x_idxSlR (v := gv) rfl hr49_ rfl Try.underlying102 z106 (by omega) (by omega) (by omega : _ = c18_) rfl) ?_
   refine sv (v := (vP (some ⟨(sb gv), so gv + (c18_ * 4 + 0), none⟩))) (x_assign rfl) ?_
   refine wpList_nil (X_then (hK48_ _ _ ?_))
   clear hK48_
   refine C_seq (fun K50_ hK50_ => ?_)
   refine C_seq (fun K51_ hK51_ => C_reg ?_)
   refine sv (v := (vP (some ⟨(sb gv), so gv + (c18_ * 4 + 0), none⟩))) (x_move rfl) ?_
   refine S_list (T_callW (al := [(vP (some ⟨(sb gv), so gv + (c18_ * 4 + 0), none⟩))]) rfl rfl cb69 (Calls.into (n := 13) (al := [(vP (some ⟨(sb gv), so gv + (c18_ * 4 + 0), none⟩))]) Try.func69 rfl Try.ntmps69 rfl rfl ?_))
   refine C_seq (fun K52_ hK52_ => C_reg ?_)
   refine sv (v := (vB false)) (x_assign rfl) ?_
   refine wpList_nil (X_then (hK52_ _ _ ?_))
   clear hK52_
   refine C_seq (fun K53_ hK53_ => C_reg ?_)
   refine sv (v := (vP (some ⟨(sb gv), so gv + (c18_ * 4 + 0), none⟩))) (x_move rfl) ?_
   refine sv (v := (vB false)) (by kernel_rfl) ?_
   refine sv (v := (vB false)) (x_move rfl) ?_
   refine S_yes (j := 2) (dj := 5) (b := false) rfl rfl rfl (T_val (v := (vP (some ⟨(sb gv), so gv + (c18_ * 4 + 0), none⟩))) (x_move rfl) ?_)
   refine S_yes (j := 2) (dj := 5) (b := false) rfl rfl rfl (T_val (v := (vP (some ⟨(sb gv), so gv + (c18_ * 4 + 0), none⟩))) (by kernel_rfl) ?_)
   refine S_yes (j := 2) (dj := 5) (b := false) rfl rfl rfl (T_val (v := (vP (some ⟨(sb gv), so gv + (c18_ * 4 + 3), none⟩))) (by kernel_rfl) ?_)
   refine S_yes (j := 2) (dj := 5) (b := false) rfl rfl rfl (T_val (v := x19_.revs) (x_load1 rfl Try.underlying80 rfl ((Holds.slrd H26_ 1 rfl) _ _ (fm_cell GN.len he22_ (i := 3) rfl))) ?_)
   refine S_yes (j := 2) (dj := 5) (b := false) rfl rfl rfl (T_val (v := (vI .i64 ((List.length x19_.l) : Int))) (x_lenRS rfl hxg_ Try.underlying80) ?_)
   refine S_yes (j := 2) (dj := 5) (b := false) rfl rfl rfl (T_val (v := (vB (decide (((List.length x19_.l) : Int) = 0)))) (x_bin rfl rfl rfl) ?_)
   refine S_list (T_pickF (v := (vB (decide (((List.length x19_.l) : Int) = 0)))) rfl rfl ?_)
   refine sv (v := (vB (decide (((List.length x19_.l) : Int) = 0)))) (x_assign rfl) ?_
   refine wpList_nil (X_then (hK53_ _ _ ?_))
   clear hK53_
   refine C_ret ?_
   refine R_any (v := (vB (decide (((List.length x19_.l) : Int) = 0)))) (run_results1 rfl rfl) ⟨_, rfl, ?_⟩
   refine sv (v := (vB (decide (¬ (((List.length x19_.l) : Int) = 0))))) (x_notP rfl) ?_
   refine wpList_nil (X_then (hK51_ _ _ ?_))
   clear hK51_
   refine C_cond (b := decide (¬ (((List.length x19_.l) : Int) = 0))) rfl (fun c54_t => ?_) (fun c54_f => ?_)
   ·have c54_tp : ¬ (((List.length x19_.l) : Int) = 0) := of_decide_eq_true c54_t
    refine C_seq (fun K55_ hK55_ => C_reg ?_)
    refine sv (v := (vI .i64 ((rLastN x19_.l at_ x19_.l.length : Int) - 1))) (x_move rfl) ?_
    refine sv (v := (vB (decide ((rLastN x19_.l at_ x19_.l.length : Int) - 1 ≠ -1)))) (x_bin rfl rfl rfl) ?_
    refine wpList_nil (X_then (hK55_ _ _ ?_))
    clear hK55_
    refine C_cond (b := decide ((rLastN x19_.l at_ x19_.l.length : Int) - 1 ≠ -1)) rfl (fun c56_t => ?_) (fun c56_f => ?_)
    ·have c56_tp : (rLastN x19_.l at_ x19_.l.length : Int) - 1 ≠ -1 := of_decide_eq_true c56_t
     refine C_reg ?_
     refine sv (v := (vP (some ⟨(sb gv), so gv + (c18_ * 4 + 0), none⟩))) (x_move rfl) ?_
     refine sv (v := (vP (some ⟨(sb gv), so gv + (c18_ * 4 + 0), none⟩))) (x_move rfl) ?_
     refine sv (v := (vP (some ⟨(sb gv), so gv + (c18_ * 4 + 0), none⟩))) (by kernel_rfl) ?_
     refine sv (v := (vP (some ⟨(sb gv), so gv + (c18_ * 4 + 3), none⟩))) (by kernel_rfl) ?_
     refine sv (v := x19_.revs) (x_load1 rfl Try.underlying80 rfl ((Holds.slrd H26_ 1 rfl) _ _ (fm_cell GN.len he22_ (i := 3) rfl))) ?_
     refine sv (v := (vI .i64 ((rLastN x19_.l at_ x19_.l.length : Int) - 1))) (x_move rfl) ?_
     refine sv (v := (slc x19_.revs (rLastN x19_.l at_ x19_.l.length - 1) (List.length x19_.l) 2)) (x_sliceRS (l := (rLastN x19_.l at_ x19_.l.length - 1)) (h := (List.length x19_.l)) rfl hxg_ Try.underlying80 z58 (by omega) rfl ⟨_, _, rfl, by omega, by omega, by omega⟩) ?_
     refine sv (v := (vP (some ⟨(sb gv), so gv + (c18_ * 4 + 0), none⟩))) (by kernel_rfl) ?_
     refine sv (v := (vP (some ⟨(sb gv), so gv + (c18_ * 4 + 3), none⟩))) (by kernel_rfl) ?_
     refine S_list0 (T_storeSl (v := gv) (u := (slc x19_.revs (rLastN x19_.l at_ x19_.l.length - 1) (List.length x19_.l) 2)) rfl rfl z80 (RS.one (RS.slcD (a := (rLastN x19_.l at_ x19_.l.length - 1)) RV.len hxg_ (by omega))) H26_ 1 rfl (by rw [fm_len GN.len]; omega) rfl rfl ?_)
     intro w57_ S59_ H58_
     have S60_ := Same.trans S31_ S59_
     have H61_ := Holds.resl H58_ 1 rfl (gset_in (y := (⟨x19_.ver, x19_.created_Main, x19_.created_Sub, (slc x19_.revs (rLastN x19_.l at_ x19_.l.length - 1) (List.length x19_.l) 2), x19_.l.drop (rLastN x19_.l at_ x19_.l.length - 1)⟩ : GN)) hxN_ rfl (by decide) : List.set ((N0 ++ T).flatMap GN.cells) (c18_ * 4 + 3) (slc x19_.revs (rLastN x19_.l at_ x19_.l.length - 1) (List.length x19_.l) 2) = (List.take c18_ N0 ++ (⟨x19_.ver, x19_.created_Main, x19_.created_Sub, (slc x19_.revs (rLastN x19_.l at_ x19_.l.length - 1) (List.length x19_.l) 2), x19_.l.drop (rLastN x19_.l at_ x19_.l.length - 1)⟩ : GN) :: (List.drop (c18_ + 1) N0 ++ T)).flatMap GN.cells) (rfl : (List.length (N0 ++ T)) = (List.length (N0 ++ T)))
     refine wpList_nil (X_then (hK50_ _ _ ?_))
     clear hK50_
     refine C_reg ?_
     refine sv (v := (vP (some ⟨kb, 0, none⟩))) (x_move rfl) ?_
     refine sv (v := (vP (some ⟨kb, 0, none⟩))) (x_move rfl) ?_
     refine sv (v := (vP (some ⟨kb, 0, none⟩))) (by kernel_rfl) ?_
     refine sv (v := (vP (some ⟨kb, 3, none⟩))) (by kernel_rfl) ?_
     refine sv (v := gv) (x_load1 rfl Try.underlying102 rfl ((Holds.rd H61_ 3 rfl) 3 gv rfl)) ?_
     refine sv (v := (vI .i64 (c18_ : Int))) (x_move rfl) ?_
     have hr62_ := Holds.sl_RSw H61_ 1 rfl
     refine sv (v := ((slc gv c18_ (List.length (N0 ++ T)) 4))) (x_sliceRS (l := c18_) (h := (List.length (N0 ++ T))) rfl hr62_ Try.underlying102 z106 (by omega) rfl ⟨_, _, rfl, by omega, by omega, by omega⟩) ?_
     have H63_ := Holds.sl_drop (k := c18_) H61_ 1 rfl (by omega)
     have H64_ := Holds.resl H63_ 1 rfl (gdrop_in (by omega) : List.drop (c18_ * 4) ((List.take c18_ N0 ++ (⟨x19_.ver, x19_.created_Main, x19_.created_Sub, (slc x19_.revs (rLastN x19_.l at_ x19_.l.length - 1) (List.length x19_.l) 2), x19_.l.drop (rLastN x19_.l at_ x19_.l.length - 1)⟩ : GN) :: (List.drop (c18_ + 1) N0 ++ T)).flatMap GN.cells) = (((⟨x19_.ver, x19_.created_Main, x19_.created_Sub, (slc x19_.revs (rLastN x19_.l at_ x19_.l.length - 1) (List.length x19_.l) 2), x19_.l.drop (rLastN x19_.l at_ x19_.l.length - 1)⟩ : GN) :: List.drop (c18_ + 1) N0) ++ T).flatMap GN.cells) (by simp; omega : (List.length (N0 ++ T)) - c18_ = (List.length (((⟨x19_.ver, x19_.created_Main, x19_.created_Sub, (slc x19_.revs (rLastN x19_.l at_ x19_.l.length - 1) (List.length x19_.l) 2), x19_.l.drop (rLastN x19_.l at_ x19_.l.length - 1)⟩ : GN) :: List.drop (c18_ + 1) N0) ++ T)))
     refine sv (v := (vP (some ⟨kb, 0, none⟩))) (by kernel_rfl) ?_
     refine sv (v := (vP (some ⟨kb, 3, none⟩))) (by kernel_rfl) ?_
     refine S_list0 (T_store1 (v := ((slc gv c18_ (List.length (N0 ++ T)) 4))) rfl rfl z102 (Holds.sl_one H64_ 1 rfl) H64_ 3 rfl (Nat.le_of_ble_eq_true (by rfl)) ?_)
     intro w65_ S67_ H66_
     have S68_ := Same.trans S60_ S67_
     refine wpList_nil ?_
     refine R_0 rfl ?_
     have eH69_ : mp K2 mb [((y20_.main, y20_.sub), vA #[])] = mp K2 mb (kmap (iKeptC ((N0 ++ T).map GN.m) at_)) := by rw [iKeptC_some he21_ he22_ he23_ he24_]; rfl
     have H69_ : Holds w65_ (ro R :: sl 106 4 (slc gv c18_ (List.length (N0 ++ T)) 4) (List.length (((⟨x19_.ver, x19_.created_Main, x19_.created_Sub, (slc x19_.revs (rLastN x19_.l at_ x19_.l.length - 1) (List.length x19_.l) 2), x19_.l.drop (rLastN x19_.l at_ x19_.l.length - 1)⟩ : GN) :: List.drop (c18_ + 1) N0) ++ T)) ((((⟨x19_.ver, x19_.created_Main, x19_.created_Sub, (slc x19_.revs (rLastN x19_.l at_ x19_.l.length - 1) (List.length x19_.l) 2), x19_.l.drop (rLastN x19_.l at_ x19_.l.length - 1)⟩ : GN) :: List.drop (c18_ + 1) N0) ++ T).flatMap GN.cells) :: sl 58 2 lv (List.length ll) (ll.flatMap RV.cells) :: cl kb 104 [(vS ka kl kc), (vI .i64 m), (vI .i64 n), ((slc gv c18_ (List.length (N0 ++ T)) 4))] :: mp K2 mb (kmap (iKeptC ((N0 ++ T).map GN.m) at_)) :: F) := cast1 (P := fun c__ => Holds w65_ (ro R :: sl 106 4 (slc gv c18_ (List.length (N0 ++ T)) 4) (List.length (((⟨x19_.ver, x19_.created_Main, x19_.created_Sub, (slc x19_.revs (rLastN x19_.l at_ x19_.l.length - 1) (List.length x19_.l) 2), x19_.l.drop (rLastN x19_.l at_ x19_.l.length - 1)⟩ : GN) :: List.drop (c18_ + 1) N0) ++ T)) ((((⟨x19_.ver, x19_.created_Main, x19_.created_Sub, (slc x19_.revs (rLastN x19_.l at_ x19_.l.length - 1) (List.length x19_.l) 2), x19_.l.drop (rLastN x19_.l at_ x19_.l.length - 1)⟩ : GN) :: List.drop (c18_ + 1) N0) ++ T).flatMap GN.cells) :: sl 58 2 lv (List.length ll) (ll.flatMap RV.cells) :: cl kb 104 [(vS ka kl kc), (vI .i64 m), (vI .i64 n), ((slc gv c18_ (List.length (N0 ++ T)) 4))] :: c__ :: F)) eH69_ H66_
     have H70_ : Holds w65_ (ro R :: cl kb 104 [(vS ka kl kc), (vI .i64 m), (vI .i64 n), ((slc gv c18_ (List.length (N0 ++ T)) 4))] :: sl 106 4 (slc gv c18_ (List.length (N0 ++ T)) 4) (List.length (((⟨x19_.ver, x19_.created_Main, x19_.created_Sub, (slc x19_.revs (rLastN x19_.l at_ x19_.l.length - 1) (List.length x19_.l) 2), x19_.l.drop (rLastN x19_.l at_ x19_.l.length - 1)⟩ : GN) :: List.drop (c18_ + 1) N0) ++ T)) ((((⟨x19_.ver, x19_.created_Main, x19_.created_Sub, (slc x19_.revs (rLastN x19_.l at_ x19_.l.length - 1) (List.length x19_.l) 2), x19_.l.drop (rLastN x19_.l at_ x19_.l.length - 1)⟩ : GN) :: List.drop (c18_ + 1) N0) ++ T).flatMap GN.cells) :: sl 58 2 lv (List.length ll) (ll.flatMap RV.cells) :: mp K2 mb (kmap (iKeptC ((N0 ++ T).map GN.m) at_)) :: F) := (Holds.pkF H69_ [0, 2, 0, 0, 0] 0 :)
     exact ⟨_, _, rfl, ⟨(slc gv c18_ (List.length (N0 ++ T)) 4), lv, ((⟨x19_.ver, x19_.created_Main, x19_.created_Sub, (slc x19_.revs (rLastN x19_.l at_ x19_.l.length - 1) (List.length x19_.l) 2), x19_.l.drop (rLastN x19_.l at_ x19_.l.length - 1)⟩ : GN) :: List.drop (c18_ + 1) N0), T, ll, rfl, rfl, (iCompact_at he21_ he22_ (by rw [List.drop_append_of_le_length (by omega)]; rfl)), (hT), (fun h_ => by rw [h_] at hcT_; simp at hcT_), (List.forall_mem_cons.2 ⟨show RS R 2 _ _ _ from (RS.slcD (a := (rLastN x19_.l at_ x19_.l.length - 1)) RV.len hxg_ (by omega)), fun x_ h_ => hN x_ (List.mem_of_mem_drop h_)⟩)⟩, S68_, H70_⟩
    ·have c56_fp : ¬ ((rLastN x19_.l at_ x19_.l.length : Int) - 1 ≠ -1) := of_decide_eq_false c56_f
     omega
   ·have c54_fp : ¬ (¬ (((List.length x19_.l) : Int) = 0)) := of_decide_eq_false c54_f
    omega
end Go.Proofs.Ytiblemgccgbhoaa
set_option linter.unusedVariables false
set_option linter.unusedSimpArgs false
namespace Go.Proofs.Ytiblemgccgbhoaa
open Go Go.RowKit Gw
open Go.Value renaming int → vI, bool → vB, slice → vS, pointer → vP, agg → vA, tuple → vT

set_option maxHeartbeats 8000000 in
theorem kCompactT (R : HP) (kb : Nat) (ka : Option Addr) (kl kc : Nat) (m n : Int) (gv lv : Value) (N0 T : List GN) (ll : List RV) (at_ : Int) (mb : Nat) (hT : Tlk T lv ll) (hN : ∀ x ∈ N0, GOk R x) (hb1 : (N0 ++ T).length ≤ 100000) (hb2 : ∀ x ∈ N0 ++ T, x.l.length ≤ 100000) (hTN : T = [] → N0 = []) (hem : iEmp ((N0 ++ T).map GN.m) = false) (hn0 : 0 < (N0 ++ T).length) (hful : ∀ (j : Nat) (x : GN), j + 1 < (N0 ++ T).length → (N0 ++ T)[j]? = some x → 0 < x.l.length) (hT0 : T ≠ []) (hj : cIdx ((N0 ++ T).map GN.m) at_ = N0.length) :
    Tri Try.prog 62 #[(vP (some ⟨kb, 0, none⟩)), (vP none), (vI .i64 at_), (Value.map (some mb))] R [cl kb 104 [(vS ka kl kc), (vI .i64 m), (vI .i64 n), gv], sl 106 4 gv (List.length (N0 ++ T)) ((N0 ++ T).flatMap GN.cells), sl 58 2 lv (List.length ll) (ll.flatMap RV.cells), mp K2 mb ([] : List ((Int × Int) × Value))] (fun v__ post__ => ∃ (gv' lv' : Value) (N0' T' : List GN) (ll' : List RV), v__ = (vT #[]) ∧ post__ = [cl kb 104 [(vS ka kl kc), (vI .i64 m), (vI .i64 n), gv'], sl 106 4 gv' (List.length (N0' ++ T')) ((N0' ++ T').flatMap GN.cells), sl 58 2 lv' (List.length ll') (ll'.flatMap RV.cells), mp K2 mb (kmap (iKeptC ((N0 ++ T).map GN.m) at_))] ∧ ((N0' ++ T').map GN.m = iCompact ((N0 ++ T).map GN.m) at_) ∧ (Tlk T' lv' ll') ∧ (T' = [] → N0' = []) ∧ (∀ x ∈ N0', GOk R x)) := by
 refine Tri.into (n := 50) (al := [(vP (some ⟨kb, 0, none⟩)), (vP none), (vI .i64 at_), (Value.map (some mb))]) Try.func62 rfl Try.ntmps62 rfl rfl fun w F H => ?_
 refine C_seq (fun K1_ hK1_ => ?_)
 refine C_seq (fun K2_ hK2_ => C_reg ?_)
 refine sv (v := (vP (some ⟨kb, 0, none⟩))) (x_move rfl) ?_
 have H4_ := ((Holds.bring (Holds.bring (Holds.bring (Holds.bring H 1 rfl) 3 rfl) 3 rfl) 3 rfl) :)
 refine S_list (T_call (al := [(vP (some ⟨kb, 0, none⟩))]) (pre := [sl 106 4 gv (List.length (N0 ++ T)) ((N0 ++ T).flatMap GN.cells), sl 58 2 lv (List.length ll) (ll.flatMap RV.cells), cl kb 104 [(vS ka kl kc), (vI .i64 m), (vI .i64 n), gv]]) rfl rfl cb64 (kEmp R kb ka kl kc m n gv lv N0 T ll (by first | assumption | omega) (by first | assumption | omega) (by first | assumption | omega) (by first | assumption | omega)) H4_ ?_)
 rintro v3_ p8_ w5_ ⟨rfl, rfl⟩ S7_ H6_
 have S9_ := Same.trans (Same.refl w) S7_
 refine wpList_nil (X_then (hK2_ _ _ ?_))
 clear hK2_
 refine C_cond (b := iEmp ((N0 ++ T).map GN.m)) rfl (fun c10_t => ?_) (fun c10_f => ?_)
 ·skip
  rw [hem] at c10_t; cases c10_t
 ·skip
  refine C_skip (X_then (hK1_ _ _ ?_))
  clear hK1_
  refine C_seq (fun K11_ hK11_ => C_reg ?_)
  refine sv (v := (vP (some ⟨kb, 0, none⟩))) (x_move rfl) ?_
  refine sv (v := (vI .i64 at_)) (x_move rfl) ?_
  refine sv (v := (Value.map (some mb))) (x_move rfl) ?_
  refine S_list (T_call (al := [(vP (some ⟨kb, 0, none⟩)), (vI .i64 at_), (Value.map (some mb))]) (pre := [sl 106 4 gv (List.length (N0 ++ T)) ((N0 ++ T).flatMap GN.cells), sl 58 2 lv (List.length ll) (ll.flatMap RV.cells), cl kb 104 [(vS ka kl kc), (vI .i64 m), (vI .i64 n), gv], mp K2 mb ([] : List ((Int × Int) × Value))]) rfl rfl cb75 (kDoC R kb ka kl kc m n gv lv N0 T ll at_ mb (by first | assumption | omega) (by first | assumption | omega) (by first | assumption | omega) (by first | assumption | omega) (by first | assumption | omega) (by first | assumption | omega)) H6_ ?_)
  rintro v12_ p28_ w25_ hq29_ S27_ H26_
  rcases hq29_ with ⟨c13_, x14_, rfl, rfl, he15_, he16_, he17_⟩ | ⟨c18_, x19_, y20_, rfl, rfl, he21_, he22_, he23_, he24_⟩
  ·skip
   have S30_ := Same.trans S9_ S27_
   obtain ⟨ta, tb, tc, hT1_⟩ := Tlk_some hT hT0
   have hce_ : c13_ = N0.length := he15_.symm.trans hj
   subst hce_
   have hxE_ : x14_ = (⟨ta, tb, tc, lv, ll⟩ : GN) := by have h_ := he16_; rw [hT1_, gat] at h_; exact (Option.some.inj h_).symm
   subst hxE_
   have H31_ := Holds.resl H26_ 1 rfl (by rw [hT1_] : (N0 ++ T).flatMap GN.cells = (N0 ++ [(⟨ta, tb, tc, lv, ll⟩ : GN)]).flatMap GN.cells) (by rw [hT1_]; simp : (List.length (N0 ++ T)) = (List.length N0 + 1))
   have hrl_ := rLastN_le ll at_ ll.length
   have hxb_ : ll.length ≤ 100000 := hb2 (⟨ta, tb, tc, lv, ll⟩ : GN) (List.mem_of_getElem? he16_)
   have hp2_ := he17_
   skip
   have hp3_ : rLastN ll at_ ll.length = 0 := he17_
   refine sv (v := (vT #[(vI .i64 ((List.length N0 : Nat) : Int)), (vI .i64 (-1))])) (x_move rfl) ?_
   refine sv (v := (vI .i64 ((List.length N0 : Nat) : Int))) (by kernel_rfl) ?_
   refine sv (v := (vI .i64 (-1))) (by kernel_rfl) ?_
   refine sv (v := (vI .i64 ((List.length N0 : Nat) : Int))) (x_assign rfl) ?_
   refine sv (v := (vI .i64 (-1))) (x_assign rfl) ?_
   refine wpList_nil (X_then (hK11_ _ _ ?_))
   clear hK11_
   refine C_seq (fun K34_ hK34_ => C_reg ?_)
   refine sv (v := (vP (some ⟨kb, 0, none⟩))) (x_move rfl) ?_
   refine sv (v := (vP (some ⟨kb, 0, none⟩))) (by kernel_rfl) ?_
   refine sv (v := (vP (some ⟨kb, 3, none⟩))) (by kernel_rfl) ?_
   refine sv (v := gv) (x_load1 rfl Try.underlying102 rfl ((Holds.rd H31_ 3 rfl) 3 gv rfl)) ?_
   refine sv (v := (vI .i64 ((List.length N0 : Nat) : Int))) (x_move rfl) ?_
   have hr35_ := Holds.sl_RSw H31_ 1 rfl
   refine sv (v := (vP (some ⟨(sb gv), so gv + ((List.length N0) * 4 + 0), none⟩))) (x_idxSlR (v := gv) rfl hr35_ rfl Try.underlying102 z106 (by omega) (by omega) (by omega : _ = (List.length N0)) rfl) ?_
   refine sv (v := (vP (some ⟨(sb gv), so gv + ((List.length N0) * 4 + 0), none⟩))) (x_assign rfl) ?_
   refine wpList_nil (X_then (hK34_ _ _ ?_))
   clear hK34_
   refine C_seq (fun K36_ hK36_ => ?_)
   refine C_seq (fun K37_ hK37_ => C_reg ?_)
   refine sv (v := (vP (some ⟨(sb gv), so gv + ((List.length N0) * 4 + 0), none⟩))) (x_move rfl) ?_
   refine S_list (T_callW (al := [(vP (some ⟨(sb gv), so gv + ((List.length N0) * 4 + 0), none⟩))]) rfl rfl cb69 (Calls.into (n := 13) (al := [(vP (some ⟨(sb gv), so gv + ((List.length N0) * 4 + 0), none⟩))]) Try.func69 rfl Try.ntmps69 rfl rfl ?_))
   refine C_seq (fun K38_ hK38_ => C_reg ?_)
   refine sv (v := (vB false)) (x_assign rfl) ?_
   refine wpList_nil (X_then (hK38_ _ _ ?_))
   clear hK38_
   refine C_seq (fun K39_ hK39_ => C_reg ?_)
   refine sv (v := (vP (some ⟨(sb gv), so gv + ((List.length N0) * 4 + 0), none⟩))) (x_move rfl) ?_
   refine sv (v := (vB false)) (by kernel_rfl) ?_
   refine sv (v := (vB false)) (x_move rfl) ?_
   refine S_yes (j := 2) (dj := 5) (b := false) rfl rfl rfl (T_val (v := (vP (some ⟨(sb gv), so gv + ((List.length N0) * 4 + 0), none⟩))) (x_move rfl) ?_)
   refine S_yes (j := 2) (dj := 5) (b := false) rfl rfl rfl (T_val (v := (vP (some ⟨(sb gv), so gv + ((List.length N0) * 4 + 0), none⟩))) (by kernel_rfl) ?_)
   refine S_yes (j := 2) (dj := 5) (b := false) rfl rfl rfl (T_val (v := (vP (some ⟨(sb gv), so gv + ((List.length N0) * 4 + 3), none⟩))) (by kernel_rfl) ?_)
   refine S_yes (j := 2) (dj := 5) (b := false) rfl rfl rfl (T_val (v := lv) (x_load1 rfl Try.underlying80 rfl ((Holds.slrd H31_ 1 rfl) _ _ (fm_cell GN.len (gat _ _) (i := 3) rfl))) ?_)
   refine S_yes (j := 2) (dj := 5) (b := false) rfl rfl rfl (T_val (v := (vI .i64 ((List.length ll) : Int))) (x_lenSl rfl H31_ 2 rfl Try.underlying80) ?_)
   refine S_yes (j := 2) (dj := 5) (b := false) rfl rfl rfl (T_val (v := (vB (decide (((List.length ll) : Int) = 0)))) (x_bin rfl rfl rfl) ?_)
   refine S_list (T_pickF (v := (vB (decide (((List.length ll) : Int) = 0)))) rfl rfl ?_)
   refine sv (v := (vB (decide (((List.length ll) : Int) = 0)))) (x_assign rfl) ?_
   refine wpList_nil (X_then (hK39_ _ _ ?_))
   clear hK39_
   refine C_ret ?_
   refine R_any (v := (vB (decide (((List.length ll) : Int) = 0)))) (run_results1 rfl rfl) ⟨_, rfl, ?_⟩
   refine sv (v := (vB (decide (¬ (((List.length ll) : Int) = 0))))) (x_notP rfl) ?_
   refine wpList_nil (X_then (hK37_ _ _ ?_))
   clear hK37_
   refine C_cond (b := decide (¬ (((List.length ll) : Int) = 0))) rfl (fun c40_t => ?_) (fun c40_f => ?_)
   ·have c40_tp : ¬ (((List.length ll) : Int) = 0) := of_decide_eq_true c40_t
    refine C_seq (fun K41_ hK41_ => C_reg ?_)
    refine sv (v := (vI .i64 (-1))) (x_move rfl) ?_
    refine sv (v := (vB false)) (x_bin rfl rfl rfl) ?_
    refine wpList_nil (X_then (hK41_ _ _ ?_))
    clear hK41_
    refine C_condF rfl ?_
    refine C_skip (X_then (hK36_ _ _ ?_))
    clear hK36_
    refine C_reg ?_
    refine sv (v := (vP (some ⟨kb, 0, none⟩))) (x_move rfl) ?_
    refine sv (v := (vP (some ⟨kb, 0, none⟩))) (x_move rfl) ?_
    refine sv (v := (vP (some ⟨kb, 0, none⟩))) (by kernel_rfl) ?_
    refine sv (v := (vP (some ⟨kb, 3, none⟩))) (by kernel_rfl) ?_
    refine sv (v := gv) (x_load1 rfl Try.underlying102 rfl ((Holds.rd H31_ 3 rfl) 3 gv rfl)) ?_
    refine sv (v := (vI .i64 ((List.length N0 : Nat) : Int))) (x_move rfl) ?_
    refine sv (v := ((slc gv (List.length N0) (List.length N0 + 1) 4))) (x_sliceRS (l := (List.length N0)) (h := (List.length N0 + 1)) rfl hr35_ Try.underlying102 z106 (by omega) rfl ⟨_, _, rfl, by omega, by omega, by omega⟩) ?_
    have H42_ := Holds.sl_drop (k := (List.length N0)) H31_ 1 rfl (by omega)
    have H43_ := Holds.resl H42_ 1 rfl (by rw [fm_dropk GN.len]; simp : List.drop ((List.length N0) * 4) ((N0 ++ [(⟨ta, tb, tc, lv, ll⟩ : GN)]).flatMap GN.cells) = (([] : List GN) ++ [(⟨ta, tb, tc, lv, ll⟩ : GN)]).flatMap GN.cells) (by simp : (List.length N0 + 1) - (List.length N0) = (List.length (([] : List GN) ++ [(⟨ta, tb, tc, lv, ll⟩ : GN)])))
    refine sv (v := (vP (some ⟨kb, 0, none⟩))) (by kernel_rfl) ?_
    refine sv (v := (vP (some ⟨kb, 3, none⟩))) (by kernel_rfl) ?_
    refine S_list0 (T_store1 (v := ((slc gv (List.length N0) (List.length N0 + 1) 4))) rfl rfl z102 (Holds.sl_one H43_ 1 rfl) H43_ 3 rfl (Nat.le_of_ble_eq_true (by rfl)) ?_)
    intro w44_ S46_ H45_
    have S47_ := Same.trans S30_ S46_
    refine wpList_nil ?_
    refine R_0 rfl ?_
    have eH48_ : mp K2 mb ([] : List ((Int × Int) × Value)) = mp K2 mb (kmap (iKeptC ((N0 ++ T).map GN.m) at_)) := by rw [iKeptC_none he15_ he16_ he17_]; rfl
    have H48_ : Holds w44_ (ro R :: sl 106 4 (slc gv (List.length N0) (List.length N0 + 1) 4) (List.length (([] : List GN) ++ [(⟨ta, tb, tc, lv, ll⟩ : GN)])) ((([] : List GN) ++ [(⟨ta, tb, tc, lv, ll⟩ : GN)]).flatMap GN.cells) :: sl 58 2 lv (List.length ll) (ll.flatMap RV.cells) :: cl kb 104 [(vS ka kl kc), (vI .i64 m), (vI .i64 n), ((slc gv (List.length N0) (List.length N0 + 1) 4))] :: mp K2 mb (kmap (iKeptC ((N0 ++ T).map GN.m) at_)) :: F) := cast1 (P := fun c__ => Holds w44_ (ro R :: sl 106 4 (slc gv (List.length N0) (List.length N0 + 1) 4) (List.length (([] : List GN) ++ [(⟨ta, tb, tc, lv, ll⟩ : GN)])) ((([] : List GN) ++ [(⟨ta, tb, tc, lv, ll⟩ : GN)]).flatMap GN.cells) :: sl 58 2 lv (List.length ll) (ll.flatMap RV.cells) :: cl kb 104 [(vS ka kl kc), (vI .i64 m), (vI .i64 n), ((slc gv (List.length N0) (List.length N0 + 1) 4))] :: c__ :: F)) eH48_ H45_
    have H49_ : Holds w44_ (ro R :: cl kb 104 [(vS ka kl kc), (vI .i64 m), (vI .i64 n), ((slc gv (List.length N0) (List.length N0 + 1) 4))] :: sl 106 4 (slc gv (List.length N0) (List.length N0 + 1) 4) (List.length (([] : List GN) ++ [(⟨ta, tb, tc, lv, ll⟩ : GN)])) ((([] : List GN) ++ [(⟨ta, tb, tc, lv, ll⟩ : GN)]).flatMap GN.cells) :: sl 58 2 lv (List.length ll) (ll.flatMap RV.cells) :: mp K2 mb (kmap (iKeptC ((N0 ++ T).map GN.m) at_)) :: F) := (Holds.pkF H48_ [0, 2, 0, 0, 0] 0 :)
    exact ⟨_, _, rfl, ⟨(slc gv (List.length N0) (List.length N0 + 1) 4), lv, ([] : List GN), [(⟨ta, tb, tc, lv, ll⟩ : GN)], ll, rfl, rfl, (iCompact_at he15_ he16_ (by rw [show (N0 ++ T).drop (List.length N0 + 1) = [] from by rw [hT1_]; simp]; simp only [GN.m, List.map_cons, List.map_nil, List.nil_append, hp3_, Nat.zero_sub, List.drop_zero])), (Or.inr ⟨_, _, _, rfl⟩), (fun h_ => by cases h_), (fun x_ h_ => by cases h_)⟩, S47_, H49_⟩
   ·have c40_fp : ¬ (¬ (((List.length ll) : Int) = 0)) := of_decide_eq_false c40_f
    refine C_skip (X_then (hK36_ _ _ ?_))
    clear hK36_
    refine C_reg ?_
    refine sv (v := (vP (some ⟨kb, 0, none⟩))) (x_move rfl) ?_
    refine sv (v := (vP (some ⟨kb, 0, none⟩))) (x_move rfl) ?_
    refine sv (v := (vP (some ⟨kb, 0, none⟩))) (by kernel_rfl) ?_
    refine sv (v := (vP (some ⟨kb, 3, none⟩))) (by kernel_rfl) ?_
    refine sv (v := gv) (x_load1 rfl Try.underlying102 rfl ((Holds.rd H31_ 3 rfl) 3 gv rfl)) ?_
    refine sv (v := (vI .i64 ((List.length N0 : Nat) : Int))) (x_move rfl) ?_
    refine sv (v := ((slc gv (List.length N0) (List.length N0 + 1) 4))) (x_sliceRS (l := (List.length N0)) (h := (List.length N0 + 1)) rfl hr35_ Try.underlying102 z106 (by omega) rfl ⟨_, _, rfl, by omega, by omega, by omega⟩) ?_
    have H50_ := Holds.sl_drop (k := (List.length N0)) H31_ 1 rfl (by omega)
    have H51_ := Holds.resl H50_ 1 rfl (by rw [fm_dropk GN.len]; simp : List.drop ((List.length N0) * 4) ((N0 ++ [(⟨ta, tb, tc, lv, ll⟩ : GN)]).flatMap GN.cells) = (([] : List GN) ++ [(⟨ta, tb, tc, lv, ll⟩ : GN)]).flatMap GN.cells) (by simp : (List.length N0 + 1) - (List.length N0) = (List.length (([] : List GN) ++ [(⟨ta, tb, tc, lv, ll⟩ : GN)])))
    refine sv (v := (vP (some ⟨kb, 0, none⟩))) (by kernel_rfl) ?_
    refine sv (v := (vP (some ⟨kb, 3, none⟩))) (by kernel_rfl) ?_
    refine S_list0 (T_store1 (v := ((slc gv (List.length N0) (List.length N0 + 1) 4))) rfl rfl z102 (Holds.sl_one H51_ 1 rfl) H51_ 3 rfl (Nat.le_of_ble_eq_true (by rfl)) ?_)
    intro w52_ S54_ H53_
    have S55_ := Same.trans S30_ S54_
    refine wpList_nil ?_
    refine R_0 rfl ?_
    have eH56_ : mp K2 mb ([] : List ((Int × Int) × Value)) = mp K2 mb (kmap (iKeptC ((N0 ++ T).map GN.m) at_)) := by rw [iKeptC_none he15_ he16_ he17_]; rfl
    have H56_ : Holds w52_ (ro R :: sl 106 4 (slc gv (List.length N0) (List.length N0 + 1) 4) (List.length (([] : List GN) ++ [(⟨ta, tb, tc, lv, ll⟩ : GN)])) ((([] : List GN) ++ [(⟨ta, tb, tc, lv, ll⟩ : GN)]).flatMap GN.cells) :: sl 58 2 lv (List.length ll) (ll.flatMap RV.cells) :: cl kb 104 [(vS ka kl kc), (vI .i64 m), (vI .i64 n), ((slc gv (List.length N0) (List.length N0 + 1) 4))] :: mp K2 mb (kmap (iKeptC ((N0 ++ T).map GN.m) at_)) :: F) := cast1 (P := fun c__ => Holds w52_ (ro R :: sl 106 4 (slc gv (List.length N0) (List.length N0 + 1) 4) (List.length (([] : List GN) ++ [(⟨ta, tb, tc, lv, ll⟩ : GN)])) ((([] : List GN) ++ [(⟨ta, tb, tc, lv, ll⟩ : GN)]).flatMap GN.cells) :: sl 58 2 lv (List.length ll) (ll.flatMap RV.cells) :: cl kb 104 [(vS ka kl kc), (vI .i64 m), (vI .i64 n), ((slc gv (List.length N0) (List.length N0 + 1) 4))] :: c__ :: F)) eH56_ H53_
    have H57_ : Holds w52_ (ro R :: cl kb 104 [(vS ka kl kc), (vI .i64 m), (vI .i64 n), ((slc gv (List.length N0) (List.length N0 + 1) 4))] :: sl 106 4 (slc gv (List.length N0) (List.length N0 + 1) 4) (List.length (([] : List GN) ++ [(⟨ta, tb, tc, lv, ll⟩ : GN)])) ((([] : List GN) ++ [(⟨ta, tb, tc, lv, ll⟩ : GN)]).flatMap GN.cells) :: sl 58 2 lv (List.length ll) (ll.flatMap RV.cells) :: mp K2 mb (kmap (iKeptC ((N0 ++ T).map GN.m) at_)) :: F) := (Holds.pkF H56_ [0, 2, 0, 0, 0] 0 :)
    exact ⟨_, _, rfl, ⟨(slc gv (List.length N0) (List.length N0 + 1) 4), lv, ([] : List GN), [(⟨ta, tb, tc, lv, ll⟩ : GN)], ll, rfl, rfl, (iCompact_at he15_ he16_ (by rw [show (N0 ++ T).drop (List.length N0 + 1) = [] from by rw [hT1_]; simp]; simp only [GN.m, List.map_cons, List.map_nil, List.nil_append, hp3_, Nat.zero_sub, List.drop_zero])), (Or.inr ⟨_, _, _, rfl⟩), (fun h_ => by cases h_), (fun x_ h_ => by cases h_)⟩, S55_, H57_⟩
  ·skip
   have S32_ := Same.trans S9_ S27_
   obtain ⟨ta, tb, tc, hT1_⟩ := Tlk_some hT hT0
   have hce_ : c18_ = N0.length := he21_.symm.trans hj
   subst hce_
   have hxE_ : x19_ = (⟨ta, tb, tc, lv, ll⟩ : GN) := by have h_ := he22_; rw [hT1_, gat] at h_; exact (Option.some.inj h_).symm
   subst hxE_
   have H33_ := Holds.resl H26_ 1 rfl (by rw [hT1_] : (N0 ++ T).flatMap GN.cells = (N0 ++ [(⟨ta, tb, tc, lv, ll⟩ : GN)]).flatMap GN.cells) (by rw [hT1_]; simp : (List.length (N0 ++ T)) = (List.length N0 + 1))
   have hrl_ := rLastN_le ll at_ ll.length
   have hxb_ : ll.length ≤ 100000 := hb2 (⟨ta, tb, tc, lv, ll⟩ : GN) (List.mem_of_getElem? he22_)
   have hp2_ := he23_
   skip
   have hp3_ : 0 < rLastN ll at_ ll.length := he24_
   refine sv (v := (vT #[(vI .i64 ((List.length N0 : Nat) : Int)), (vI .i64 ((rLastN ll at_ ll.length : Int) - 1))])) (x_move rfl) ?_
   refine sv (v := (vI .i64 ((List.length N0 : Nat) : Int))) (by kernel_rfl) ?_
   refine sv (v := (vI .i64 ((rLastN ll at_ ll.length : Int) - 1))) (by kernel_rfl) ?_
   refine sv (v := (vI .i64 ((List.length N0 : Nat) : Int))) (x_assign rfl) ?_
   refine sv (v := (vI .i64 ((rLastN ll at_ ll.length : Int) - 1))) (x_assign rfl) ?_
   refine wpList_nil (X_then (hK11_ _ _ ?_))
   clear hK11_
   refine C_seq (fun K58_ hK58_ => C_reg ?_)
   refine sv (v := (vP (some ⟨kb, 0, none⟩))) (x_move rfl) ?_
   refine sv (v := (vP (some ⟨kb, 0, none⟩))) (by kernel_rfl) ?_
   refine sv (v := (vP (some ⟨kb, 3, none⟩))) (by kernel_rfl) ?_
   refine sv (v := gv) (x_load1 rfl Try.underlying102 rfl ((Holds.rd H33_ 3 rfl) 3 gv rfl)) ?_
   refine sv (v := (vI .i64 ((List.length N0 : Nat) : Int))) (x_move rfl) ?_
   have hr59_ := Holds.sl_RSw H33_ 1 rfl
   refine sv (v := (vP (some ⟨(sb gv), so gv + ((List.length N0) * 4 + 0), none⟩))) (x_idxSlR (v := gv) rfl hr59_ rfl Try.underlying102 z106 (by omega) (by omega) (by omega : _ = (List.length N0)) rfl) ?_
   refine sv (v := (vP (some ⟨(sb gv), so gv + ((List.length N0) * 4 + 0), none⟩))) (x_assign rfl) ?_
   refine wpList_nil (X_then (hK58_ _ _ ?_))
   clear hK58_
   refine C_seq (fun K60_ hK60_ => ?_)
   refine C_seq (fun K61_ hK61_ => C_reg ?_)
   refine sv (v := (vP (some ⟨(sb gv), so gv + ((List.length N0) * 4 + 0), none⟩))) (x_move rfl) ?_
   refine S_list (T_callW (al := [(vP (some ⟨(sb gv), so gv + ((List.length N0) * 4 + 0), none⟩))]) rfl rfl cb69 (Calls.into (n := 13) (al := [(vP (some ⟨(sb gv), so gv + ((List.length N0) * 4 + 0), none⟩))]) Try.func69 rfl Try.ntmps69 rfl rfl ?_))
   refine C_seq (fun K62_ hK62_ => C_reg ?_)
   refine sv (v := (vB false)) (x_assign rfl) ?_
   refine wpList_nil (X_then (hK62_ _ _ ?_))
   clear hK62_
   refine C_seq (fun K63_ hK63_ => C_reg ?_)
   refine sv (v := (vP (some ⟨(sb gv), so gv + ((List.length N0) * 4 + 0), none⟩))) (x_move rfl) ?_
   refine sv (v := (vB false)) (by kernel_rfl) ?_
   refine sv (v := (vB false)) (x_move rfl) ?_
   refine S_yes (j := 2) (dj := 5) (b := false) rfl rfl rfl (T_val (v := (vP (some ⟨(sb gv), so gv + ((List.length N0) * 4 + 0), none⟩))) (x_move rfl) ?_)
   refine S_yes (j := 2) (dj := 5) (b := false) rfl rfl rfl (T_val (v := (vP (some ⟨(sb gv), so gv + ((List.length N0) * 4 + 0), none⟩))) (by kernel_rfl) ?_)
   refine S_yes (j := 2) (dj := 5) (b := false) rfl rfl rfl (T_val (v := (vP (some ⟨(sb gv), so gv + ((List.length N0) * 4 + 3), none⟩))) (by kernel_rfl) ?_)
   refine S_yes (j := 2) (dj := 5) (b := false) rfl rfl rfl (T_val (v := lv) (x_load1 rfl Try.underlying80 rfl ((Holds.slrd H33_ 1 rfl) _ _ (fm_cell GN.len (gat _ _) (i := 3) rfl))) ?_)
   refine S_yes (j := 2) (dj := 5) (b := false) rfl rfl rfl (T_val (v := (vI .i64 ((List.length ll) : Int))) (x_lenSl rfl H33_ 2 rfl Try.underlying80) ?_)
   refine S_yes (j := 2) (dj := 5) (b := false) rfl rfl rfl (T_val (v := (vB (decide (((List.length ll) : Int) = 0)))) (x_bin rfl rfl rfl) ?_)
   refine S_list (T_pickF (v := (vB (decide (((List.length ll) : Int) = 0)))) rfl rfl ?_)
   refine sv (v := (vB (decide (((List.length ll) : Int) = 0)))) (x_assign rfl) ?_
   refine wpList_nil (X_then (hK63_ _ _ ?_))
   clear hK63_
   refine C_ret ?_
   refine R_any (v := (vB (decide (((List.length ll) : Int) = 0)))) (run_results1 rfl rfl) ⟨_, rfl, ?_⟩
   refine sv (v := (vB (decide (¬ (((List.length ll) : Int) = 0))))) (x_notP rfl) ?_
   refine wpList_nil (X_then (hK61_ _ _ ?_))
   clear hK61_
   refine C_cond (b := decide (¬ (((List.length ll) : Int) = 0))) rfl (fun c64_t => ?_) (fun c64_f => ?_)
   ·have c64_tp : ¬ (((List.length ll) : Int) = 0) := of_decide_eq_true c64_t
    refine C_seq (fun K65_ hK65_ => C_reg ?_)
    refine sv (v := (vI .i64 ((rLastN ll at_ ll.length : Int) - 1))) (x_move rfl) ?_
    refine sv (v := (vB (decide ((rLastN ll at_ ll.length : Int) - 1 ≠ -1)))) (x_bin rfl rfl rfl) ?_
    refine wpList_nil (X_then (hK65_ _ _ ?_))
    clear hK65_
    refine C_cond (b := decide ((rLastN ll at_ ll.length : Int) - 1 ≠ -1)) rfl (fun c66_t => ?_) (fun c66_f => ?_)
    ·have c66_tp : (rLastN ll at_ ll.length : Int) - 1 ≠ -1 := of_decide_eq_true c66_t
     refine C_reg ?_
     refine sv (v := (vP (some ⟨(sb gv), so gv + ((List.length N0) * 4 + 0), none⟩))) (x_move rfl) ?_
     refine sv (v := (vP (some ⟨(sb gv), so gv + ((List.length N0) * 4 + 0), none⟩))) (x_move rfl) ?_
     refine sv (v := (vP (some ⟨(sb gv), so gv + ((List.length N0) * 4 + 0), none⟩))) (by kernel_rfl) ?_
     refine sv (v := (vP (some ⟨(sb gv), so gv + ((List.length N0) * 4 + 3), none⟩))) (by kernel_rfl) ?_
     refine sv (v := lv) (x_load1 rfl Try.underlying80 rfl ((Holds.slrd H33_ 1 rfl) _ _ (fm_cell GN.len (gat _ _) (i := 3) rfl))) ?_
     refine sv (v := (vI .i64 ((rLastN ll at_ ll.length : Int) - 1))) (x_move rfl) ?_
     have hr67_ := Holds.sl_RSw H33_ 2 rfl
     refine sv (v := ((slc lv (rLastN ll at_ ll.length - 1) (List.length ll) 2))) (x_sliceRS (l := (rLastN ll at_ ll.length - 1)) (h := (List.length ll)) rfl hr67_ Try.underlying80 z58 (by omega) rfl ⟨_, _, rfl, by omega, by omega, by omega⟩) ?_
     have H68_ := Holds.sl_drop (k := (rLastN ll at_ ll.length - 1)) H33_ 2 rfl (by omega)
     have H69_ := Holds.resl H68_ 2 rfl (fm_dropk RV.len _ _ : List.drop ((rLastN ll at_ ll.length - 1) * 2) (ll.flatMap RV.cells) = (List.drop (rLastN ll at_ ll.length - 1) ll).flatMap RV.cells) (by simp : (List.length ll) - (rLastN ll at_ ll.length - 1) = (List.length (List.drop (rLastN ll at_ ll.length - 1) ll)))
     refine sv (v := (vP (some ⟨(sb gv), so gv + ((List.length N0) * 4 + 0), none⟩))) (by kernel_rfl) ?_
     refine sv (v := (vP (some ⟨(sb gv), so gv + ((List.length N0) * 4 + 3), none⟩))) (by kernel_rfl) ?_
     refine S_list0 (T_storeSl (v := gv) (u := ((slc lv (rLastN ll at_ ll.length - 1) (List.length ll) 2))) rfl rfl z80 (Holds.sl_one H69_ 2 rfl) H69_ 1 rfl (by first | omega | (rw [fm_len GN.len]; simp only [List.length_append, List.length_cons, List.length_nil]; omega)) rfl rfl ?_)
     intro w70_ S72_ H71_
     have S73_ := Same.trans S32_ S72_
     have H74_ := Holds.resl H71_ 1 rfl (gset rfl : List.set ((N0 ++ [(⟨ta, tb, tc, lv, ll⟩ : GN)]).flatMap GN.cells) ((List.length N0) * 4 + 3) ((slc lv (rLastN ll at_ ll.length - 1) (List.length ll) 2)) = (N0 ++ [(⟨ta, tb, tc, (slc lv (rLastN ll at_ ll.length - 1) (List.length ll) 2), (List.drop (rLastN ll at_ ll.length - 1) ll)⟩ : GN)]).flatMap GN.cells) (rfl : (List.length N0 + 1) = (List.length N0 + 1))
     refine wpList_nil (X_then (hK60_ _ _ ?_))
     clear hK60_
     refine C_reg ?_
     refine sv (v := (vP (some ⟨kb, 0, none⟩))) (x_move rfl) ?_
     refine sv (v := (vP (some ⟨kb, 0, none⟩))) (x_move rfl) ?_
     refine sv (v := (vP (some ⟨kb, 0, none⟩))) (by kernel_rfl) ?_
     refine sv (v := (vP (some ⟨kb, 3, none⟩))) (by kernel_rfl) ?_
     refine sv (v := gv) (x_load1 rfl Try.underlying102 rfl ((Holds.rd H74_ 3 rfl) 3 gv rfl)) ?_
     refine sv (v := (vI .i64 ((List.length N0 : Nat) : Int))) (x_move rfl) ?_
     have hr75_ := Holds.sl_RSw H74_ 1 rfl
     refine sv (v := ((slc gv (List.length N0) (List.length N0 + 1) 4))) (x_sliceRS (l := (List.length N0)) (h := (List.length N0 + 1)) rfl hr75_ Try.underlying102 z106 (by omega) rfl ⟨_, _, rfl, by omega, by omega, by omega⟩) ?_
     have H76_ := Holds.sl_drop (k := (List.length N0)) H74_ 1 rfl (by omega)
     have H77_ := Holds.resl H76_ 1 rfl (by rw [fm_dropk GN.len]; simp : List.drop ((List.length N0) * 4) ((N0 ++ [(⟨ta, tb, tc, (slc lv (rLastN ll at_ ll.length - 1) (List.length ll) 2), (List.drop (rLastN ll at_ ll.length - 1) ll)⟩ : GN)]).flatMap GN.cells) = (([] : List GN) ++ [(⟨ta, tb, tc, (slc lv (rLastN ll at_ ll.length - 1) (List.length ll) 2), (List.drop (rLastN ll at_ ll.length - 1) ll)⟩ : GN)]).flatMap GN.cells) (by simp : (List.length N0 + 1) - (List.length N0) = (List.length (([] : List GN) ++ [(⟨ta, tb, tc, (slc lv (rLastN ll at_ ll.length - 1) (List.length ll) 2), (List.drop (rLastN ll at_ ll.length - 1) ll)⟩ : GN)])))
     refine sv (v := (vP (some ⟨kb, 0, none⟩))) (by kernel_rfl) ?_
     refine sv (v := (vP (some ⟨kb, 3, none⟩))) (by kernel_rfl) ?_
     refine S_list0 (T_store1 (v := ((slc gv (List.length N0) (List.length N0 + 1) 4))) rfl rfl z102 (Holds.sl_one H77_ 1 rfl) H77_ 3 rfl (Nat.le_of_ble_eq_true (by rfl)) ?_)
     intro w78_ S80_ H79_
     have S81_ := Same.trans S73_ S80_
     refine wpList_nil ?_
     refine R_0 rfl ?_
     have eH82_ : mp K2 mb [((y20_.main, y20_.sub), vA #[])] = mp K2 mb (kmap (iKeptC ((N0 ++ T).map GN.m) at_)) := by rw [iKeptC_some he21_ he22_ he23_ he24_]; rfl
     have H82_ : Holds w78_ (ro R :: sl 106 4 (slc gv (List.length N0) (List.length N0 + 1) 4) (List.length (([] : List GN) ++ [(⟨ta, tb, tc, (slc lv (rLastN ll at_ ll.length - 1) (List.length ll) 2), (List.drop (rLastN ll at_ ll.length - 1) ll)⟩ : GN)])) ((([] : List GN) ++ [(⟨ta, tb, tc, (slc lv (rLastN ll at_ ll.length - 1) (List.length ll) 2), (List.drop (rLastN ll at_ ll.length - 1) ll)⟩ : GN)]).flatMap GN.cells) :: sl 58 2 (slc lv (rLastN ll at_ ll.length - 1) (List.length ll) 2) (List.length (List.drop (rLastN ll at_ ll.length - 1) ll)) ((List.drop (rLastN ll at_ ll.length - 1) ll).flatMap RV.cells) :: cl kb 104 [(vS ka kl kc), (vI .i64 m), (vI .i64 n), ((slc gv (List.length N0) (List.length N0 + 1) 4))] :: mp K2 mb (kmap (iKeptC ((N0 ++ T).map GN.m) at_)) :: F) := cast1 (P := fun c__ => Holds w78_ (ro R :: sl 106 4 (slc gv (List.length N0) (List.length N0 + 1) 4) (List.length (([] : List GN) ++ [(⟨ta, tb, tc, (slc lv (rLastN ll at_ ll.length - 1) (List.length ll) 2), (List.drop (rLastN ll at_ ll.length - 1) ll)⟩ : GN)])) ((([] : List GN) ++ [(⟨ta, tb, tc, (slc lv (rLastN ll at_ ll.length - 1) (List.length ll) 2), (List.drop (rLastN ll at_ ll.length - 1) ll)⟩ : GN)]).flatMap GN.cells) :: sl 58 2 (slc lv (rLastN ll at_ ll.length - 1) (List.length ll) 2) (List.length (List.drop (rLastN ll at_ ll.length - 1) ll)) ((List.drop (rLastN ll at_ ll.length - 1) ll).flatMap RV.cells) :: cl kb 104 [(vS ka kl kc), (vI .i64 m), (vI .i64 n), ((slc gv (List.length N0) (List.length N0 + 1) 4))] :: c__ :: F)) eH82_ H79_
     have H83_ : Holds w78_ (ro R :: cl kb 104 [(vS ka kl kc), (vI .i64 m), (vI .i64 n), ((slc gv (List.length N0) (List.length N0 + 1) 4))] :: sl 106 4 (slc gv (List.length N0) (List.length N0 + 1) 4) (List.length (([] : List GN) ++ [(⟨ta, tb, tc, (slc lv (rLastN ll at_ ll.length - 1) (List.length ll) 2), (List.drop (rLastN ll at_ ll.length - 1) ll)⟩ : GN)])) ((([] : List GN) ++ [(⟨ta, tb, tc, (slc lv (rLastN ll at_ ll.length - 1) (List.length ll) 2), (List.drop (rLastN ll at_ ll.length - 1) ll)⟩ : GN)]).flatMap GN.cells) :: sl 58 2 (slc lv (rLastN ll at_ ll.length - 1) (List.length ll) 2) (List.length (List.drop (rLastN ll at_ ll.length - 1) ll)) ((List.drop (rLastN ll at_ ll.length - 1) ll).flatMap RV.cells) :: mp K2 mb (kmap (iKeptC ((N0 ++ T).map GN.m) at_)) :: F) := (Holds.pkF H82_ [0, 2, 0, 0, 0] 0 :)
     exact ⟨_, _, rfl, ⟨(slc gv (List.length N0) (List.length N0 + 1) 4), (slc lv (rLastN ll at_ ll.length - 1) (List.length ll) 2), ([] : List GN), [(⟨ta, tb, tc, (slc lv (rLastN ll at_ ll.length - 1) (List.length ll) 2), (List.drop (rLastN ll at_ ll.length - 1) ll)⟩ : GN)], (List.drop (rLastN ll at_ ll.length - 1) ll), rfl, rfl, (iCompact_at he21_ he22_ (by rw [show (N0 ++ T).drop (List.length N0 + 1) = [] from by rw [hT1_]; simp]; rfl)), (Or.inr ⟨_, _, _, rfl⟩), (fun h_ => by cases h_), (fun x_ h_ => by cases h_)⟩, S81_, H83_⟩
    ·have c66_fp : ¬ ((rLastN ll at_ ll.length : Int) - 1 ≠ -1) := of_decide_eq_false c66_f
     omega
   ·have c64_fp : ¬ (¬ (((List.length ll) : Int) = 0)) := of_decide_eq_false c64_f
    omega

theorem cIdx_lt : ∀ (G : List GM) (at_ : Int), 0 < G.length → cIdx G at_ < G.length
  | [_], _, _ => by simp [cIdx]
  | g :: h :: r, at_, _ => by
    rw [cIdx]
    split
    · simp
    · have := cIdx_lt (h :: r) at_ (by simp)
      simp only [List.length_cons] at this ⊢
      omega
theorem cIdx_at {N T : List GN} {at_ : Int} {lv : Value} {ll : List RV} (hT : Tlk T lv ll) (hn : 0 < (N ++ T).length) : cIdx ((N ++ T).map GN.m) at_ < N.length ∨ (T ≠ [] ∧ cIdx ((N ++ T).map GN.m) at_ = N.length) := by
  have h := cIdx_lt ((N ++ T).map GN.m) at_ (by rw [List.length_map]; exact hn)
  rw [List.length_map, List.length_append] at h
  rcases hT with ⟨rfl, _, _⟩ | ⟨a, b, c, rfl⟩
  · left; simpa using h
  · by_cases h1 : cIdx ((N ++ [(⟨a, b, c, lv, ll⟩ : GN)]).map GN.m) at_ < N.length
    · exact .inl h1
    · right
      refine ⟨by simp, ?_⟩
      simp only [List.length_cons, List.length_nil] at h
      omega

theorem kCompact (R : HP) (kb : Nat) (ka : Option Addr) (kl kc : Nat) (m n : Int) (gv lv : Value) (N0 T : List GN) (ll : List RV) (at_ : Int) (mb : Nat) (hT : Tlk T lv ll) (hN : ∀ x ∈ N0, GOk R x) (hb1 : (N0 ++ T).length ≤ 100000) (hb2 : ∀ x ∈ N0 ++ T, x.l.length ≤ 100000) (hTN : T = [] → N0 = []) (hem : iEmp ((N0 ++ T).map GN.m) = false) (hn0 : 0 < (N0 ++ T).length) (hful : ∀ (j : Nat) (x : GN), j + 1 < (N0 ++ T).length → (N0 ++ T)[j]? = some x → 0 < x.l.length) :
    Tri Try.prog 62 #[(vP (some ⟨kb, 0, none⟩)), (vP none), (vI .i64 at_), (Value.map (some mb))] R [cl kb 104 [(vS ka kl kc), (vI .i64 m), (vI .i64 n), gv], sl 106 4 gv (List.length (N0 ++ T)) ((N0 ++ T).flatMap GN.cells), sl 58 2 lv (List.length ll) (ll.flatMap RV.cells), mp K2 mb ([] : List ((Int × Int) × Value))] (fun v__ post__ => ∃ (gv' lv' : Value) (N0' T' : List GN) (ll' : List RV), v__ = (vT #[]) ∧ post__ = [cl kb 104 [(vS ka kl kc), (vI .i64 m), (vI .i64 n), gv'], sl 106 4 gv' (List.length (N0' ++ T')) ((N0' ++ T').flatMap GN.cells), sl 58 2 lv' (List.length ll') (ll'.flatMap RV.cells), mp K2 mb (kmap (iKeptC ((N0 ++ T).map GN.m) at_))] ∧ ((N0' ++ T').map GN.m = iCompact ((N0 ++ T).map GN.m) at_) ∧ (Tlk T' lv' ll') ∧ (T' = [] → N0' = []) ∧ (∀ x ∈ N0', GOk R x)) := by
  rcases cIdx_at (at_ := at_) hT hn0 with hj | ⟨hT0, hj⟩
  · exact kCompactN R kb ka kl kc m n gv lv N0 T ll at_ mb hT hN hb1 hb2 hTN hem hn0 hful hj
  · exact kCompactT R kb ka kl kc m n gv lv N0 T ll at_ mb hT hN hb1 hb2 hTN hem hn0 hful hT0 hj
end Go.Proofs.Ytiblemgccgbhoaa
set_option linter.unusedVariables false
set_option linter.unusedSimpArgs false
namespace Go.Proofs.Ytiblemgccgbhoaa
open Go Go.RowKit Gw
open Go.Value renaming int → vI, bool → vB, slice → vS, pointer → vP, agg → vA, tuple → vT

set_option maxHeartbeats 8000000 in
theorem kKeepN (R : HP) (kb : Nat) (ka : Option Addr) (kl kc : Nat) (m n : Int) (gv lv : Value) (N0 T : List GN) (ll : List RV) (at_ : Int) (mb : Nat) (hT : Tlk T lv ll) (hN : ∀ x ∈ N0, GOk R x) (hb1 : (N0 ++ T).length ≤ 100000) (hb2 : ∀ x ∈ N0 ++ T, x.l.length ≤ 100000) (hTN : T = [] → N0 = []) (hn0 : 0 < (N0 ++ T).length) (hful : ∀ (j : Nat) (x : GN), j + 1 < (N0 ++ T).length → (N0 ++ T)[j]? = some x → 0 < x.l.length) (hj : cIdx ((N0 ++ T).map GN.m) at_ < N0.length) :
    Tri Try.prog 63 #[(vP (some ⟨kb, 0, none⟩)), (vI .i64 at_), (Value.map (some mb))] R [cl kb 104 [(vS ka kl kc), (vI .i64 m), (vI .i64 n), gv], sl 106 4 gv (List.length (N0 ++ T)) ((N0 ++ T).flatMap GN.cells), sl 58 2 lv (List.length ll) (ll.flatMap RV.cells), mp K2 mb ([] : List ((Int × Int) × Value))] (fun v__ post__ => v__ = (vT #[]) ∧ post__ = [cl kb 104 [(vS ka kl kc), (vI .i64 m), (vI .i64 n), gv], sl 106 4 gv (List.length (N0 ++ T)) ((N0 ++ T).flatMap GN.cells), sl 58 2 lv (List.length ll) (ll.flatMap RV.cells), mp K2 mb (kmap (iKeptK ((N0 ++ T).map GN.m) at_))]) := by
 refine Tri.into (n := 53) (al := [(vP (some ⟨kb, 0, none⟩)), (vI .i64 at_), (Value.map (some mb))]) Try.func63 rfl Try.ntmps63 rfl rfl fun w F H => ?_
 refine C_seq (fun K1_ hK1_ => ?_)
 refine C_seq (fun K2_ hK2_ => C_reg ?_)
 refine sv (v := (vP (some ⟨kb, 0, none⟩))) (x_move rfl) ?_
 have H4_ := ((Holds.bring (Holds.bring (Holds.bring (Holds.bring H 1 rfl) 3 rfl) 3 rfl) 3 rfl) :)
 refine S_list (T_call (al := [(vP (some ⟨kb, 0, none⟩))]) (pre := [sl 106 4 gv (List.length (N0 ++ T)) ((N0 ++ T).flatMap GN.cells), sl 58 2 lv (List.length ll) (ll.flatMap RV.cells), cl kb 104 [(vS ka kl kc), (vI .i64 m), (vI .i64 n), gv]]) rfl rfl cb64 (kEmp R kb ka kl kc m n gv lv N0 T ll (by first | assumption | omega) (by first | assumption | omega) (by first | assumption | omega) (by first | assumption | omega)) H4_ ?_)
 rintro v3_ p8_ w5_ ⟨rfl, rfl⟩ S7_ H6_
 have S9_ := Same.trans (Same.refl w) S7_
 refine wpList_nil (X_then (hK2_ _ _ ?_))
 clear hK2_
 refine C_cond (b := iEmp ((N0 ++ T).map GN.m)) rfl (fun c10_t => ?_) (fun c10_f => ?_)
 ·skip
  refine C_ret (X_thenR ?_)
  refine R_0r rfl ?_
  have eH11_ : mp K2 mb ([] : List ((Int × Int) × Value)) = mp K2 mb (kmap (iKeptK ((N0 ++ T).map GN.m) at_)) := by rw [iKeptK_emp c10_t]; rfl
  have H11_ : Holds w5_ (ro R :: sl 106 4 gv (List.length (N0 ++ T)) ((N0 ++ T).flatMap GN.cells) :: sl 58 2 lv (List.length ll) (ll.flatMap RV.cells) :: cl kb 104 [(vS ka kl kc), (vI .i64 m), (vI .i64 n), gv] :: mp K2 mb (kmap (iKeptK ((N0 ++ T).map GN.m) at_)) :: F) := cast1 (P := fun c__ => Holds w5_ (ro R :: sl 106 4 gv (List.length (N0 ++ T)) ((N0 ++ T).flatMap GN.cells) :: sl 58 2 lv (List.length ll) (ll.flatMap RV.cells) :: cl kb 104 [(vS ka kl kc), (vI .i64 m), (vI .i64 n), gv] :: c__ :: F)) eH11_ H6_
  have H12_ : Holds w5_ (ro R :: cl kb 104 [(vS ka kl kc), (vI .i64 m), (vI .i64 n), gv] :: sl 106 4 gv (List.length (N0 ++ T)) ((N0 ++ T).flatMap GN.cells) :: sl 58 2 lv (List.length ll) (ll.flatMap RV.cells) :: mp K2 mb (kmap (iKeptK ((N0 ++ T).map GN.m) at_)) :: F) := (Holds.pkF H11_ [0, 2, 0, 0, 0] 0 :)
  exact ⟨_, _, rfl, ⟨rfl, rfl⟩, S9_, H12_⟩
 ·skip
  refine C_skip (X_then (hK1_ _ _ ?_))
  clear hK1_
  refine C_seq (fun K13_ hK13_ => C_reg ?_)
  refine sv (v := (vP (some ⟨kb, 0, none⟩))) (x_move rfl) ?_
  refine sv (v := (vI .i64 at_)) (x_move rfl) ?_
  refine sv (v := (Value.map (some mb))) (x_move rfl) ?_
  refine S_list (T_call (al := [(vP (some ⟨kb, 0, none⟩)), (vI .i64 at_), (Value.map (some mb))]) (pre := [sl 106 4 gv (List.length (N0 ++ T)) ((N0 ++ T).flatMap GN.cells), sl 58 2 lv (List.length ll) (ll.flatMap RV.cells), cl kb 104 [(vS ka kl kc), (vI .i64 m), (vI .i64 n), gv], mp K2 mb ([] : List ((Int × Int) × Value))]) rfl rfl cb75 (kDoC R kb ka kl kc m n gv lv N0 T ll at_ mb (by first | assumption | omega) (by first | assumption | omega) (by first | assumption | omega) (by first | assumption | omega) (by first | assumption | omega) (by first | assumption | omega)) H6_ ?_)
  rintro v14_ p30_ w27_ hq31_ S29_ H28_
  rcases hq31_ with ⟨c15_, x16_, rfl, rfl, he17_, he18_, he19_⟩ | ⟨c20_, x21_, y22_, rfl, rfl, he23_, he24_, he25_, he26_⟩
  ·skip
   have S32_ := Same.trans S9_ S29_
   have hcl_ : c15_ < N0.length := by have h_ := hj; rw [he17_] at h_; exact h_
   have hxN_ : N0[c15_]? = some x16_ := by have h_ := he18_; rw [List.getElem?_append_left hcl_] at h_; exact h_
   have hxm_ := List.mem_of_getElem? hxN_
   have hxg_ := hN x16_ hxm_
   have hcT_ : 0 < T.length := List.length_pos_iff.2 (fun h_ => by have h2_ := hTN h_; rw [h2_] at hcl_; simp at hcl_)
   have hlT_ : (N0 ++ T).length = N0.length + T.length := List.length_append
   have hx0_ := hful c15_ x16_ (by omega) he18_
   have hrl_ := rLastN_le x16_.l at_ x16_.l.length
   have hxb_ := hb2 x16_ (List.mem_of_getElem? he18_)
   refine sv (v := (vT #[(vI .i64 (c15_ : Int)), (vI .i64 (-1))])) (x_move rfl) ?_
   refine sv (v := (vI .i64 (c15_ : Int))) (by kernel_rfl) ?_
   refine sv (v := (vI .i64 (-1))) (by kernel_rfl) ?_
   refine sv (v := (vI .i64 (c15_ : Int))) (x_assign rfl) ?_
   refine sv (v := (vI .i64 (-1))) (x_assign rfl) ?_
   refine wpList_nil (X_then (hK13_ _ _ ?_))
   clear hK13_
   refine C_seq (fun K34_ hK34_ => C_reg ?_)
   refine sv (v := (vP (some ⟨kb, 0, none⟩))) (x_move rfl) ?_
   refine sv (v := (vP (some ⟨kb, 0, none⟩))) (by kernel_rfl) ?_
   refine sv (v := (vP (some ⟨kb, 3, none⟩))) (by kernel_rfl) ?_
   refine sv (v := gv) (x_load1 rfl Try.underlying102 rfl ((Holds.rd H28_ 3 rfl) 3 gv rfl)) ?_
   refine sv (v := (vI .i64 (c15_ : Int))) (x_move rfl) ?_
   have hr35_ := Holds.sl_RSw H28_ 1 rfl
   refine sv (v := (vP (some ⟨(sb gv), so gv + (c15_ * 4 + 0), none⟩))) (x_idxSlR (v := gv) rfl hr35_ rfl Try.underlying102 z106 (by omega) (by omega) (by omega : _ = c15_) rfl) ?_
   refine sv (v := (vP (some ⟨(sb gv), so gv + (c15_ * 4 + 0), none⟩))) (x_assign rfl) ?_
   refine wpList_nil (X_then (hK34_ _ _ ?_))
   clear hK34_
   refine C_seq (fun K36_ hK36_ => C_reg ?_)
   refine sv (v := (vP (some ⟨(sb gv), so gv + (c15_ * 4 + 0), none⟩))) (x_move rfl) ?_
   refine S_list (T_callW (al := [(vP (some ⟨(sb gv), so gv + (c15_ * 4 + 0), none⟩))]) rfl rfl cb69 (Calls.into (n := 13) (al := [(vP (some ⟨(sb gv), so gv + (c15_ * 4 + 0), none⟩))]) Try.func69 rfl Try.ntmps69 rfl rfl ?_))
   refine C_seq (fun K37_ hK37_ => C_reg ?_)
   refine sv (v := (vB false)) (x_assign rfl) ?_
   refine wpList_nil (X_then (hK37_ _ _ ?_))
   clear hK37_
   refine C_seq (fun K38_ hK38_ => C_reg ?_)
   refine sv (v := (vP (some ⟨(sb gv), so gv + (c15_ * 4 + 0), none⟩))) (x_move rfl) ?_
   refine sv (v := (vB false)) (by kernel_rfl) ?_
   refine sv (v := (vB false)) (x_move rfl) ?_
   refine S_yes (j := 2) (dj := 5) (b := false) rfl rfl rfl (T_val (v := (vP (some ⟨(sb gv), so gv + (c15_ * 4 + 0), none⟩))) (x_move rfl) ?_)
   refine S_yes (j := 2) (dj := 5) (b := false) rfl rfl rfl (T_val (v := (vP (some ⟨(sb gv), so gv + (c15_ * 4 + 0), none⟩))) (by kernel_rfl) ?_)
   refine S_yes (j := 2) (dj := 5) (b := false) rfl rfl rfl (T_val (v := (vP (some ⟨(sb gv), so gv + (c15_ * 4 + 3), none⟩))) (by kernel_rfl) ?_)
   refine S_yes (j := 2) (dj := 5) (b := false) rfl rfl rfl (T_val (v := x16_.revs) (x_load1 rfl Try.underlying80 rfl ((Holds.slrd H28_ 1 rfl) _ _ (fm_cell GN.len he18_ (i := 3) rfl))) ?_)
   refine S_yes (j := 2) (dj := 5) (b := false) rfl rfl rfl (T_val (v := (vI .i64 ((List.length x16_.l) : Int))) (x_lenRS rfl hxg_ Try.underlying80) ?_)
   refine S_yes (j := 2) (dj := 5) (b := false) rfl rfl rfl (T_val (v := (vB (decide (((List.length x16_.l) : Int) = 0)))) (x_bin rfl rfl rfl) ?_)
   refine S_list (T_pickF (v := (vB (decide (((List.length x16_.l) : Int) = 0)))) rfl rfl ?_)
   refine sv (v := (vB (decide (((List.length x16_.l) : Int) = 0)))) (x_assign rfl) ?_
   refine wpList_nil (X_then (hK38_ _ _ ?_))
   clear hK38_
   refine C_ret ?_
   refine R_any (v := (vB (decide (((List.length x16_.l) : Int) = 0)))) (run_results1 rfl rfl) ⟨_, rfl, ?_⟩
   refine sv (v := (vB (decide (¬ (((List.length x16_.l) : Int) = 0))))) (x_notP rfl) ?_
   refine wpList_nil (X_then (hK36_ _ _ ?_))
   clear hK36_
   refine C_cond (b := decide (¬ (((List.length x16_.l) : Int) = 0))) rfl (fun c39_t => ?_) (fun c39_f => ?_)
   ·have c39_tp : ¬ (((List.length x16_.l) : Int) = 0) := of_decide_eq_true c39_t
    refine C_seq (fun K40_ hK40_ => C_reg ?_)
    refine sv (v := (vI .i64 (-1))) (x_move rfl) ?_
    refine sv (v := (vP (some ⟨(sb gv), so gv + (c15_ * 4 + 0), none⟩))) (x_move rfl) ?_
    refine sv (v := (vP (some ⟨(sb gv), so gv + (c15_ * 4 + 0), none⟩))) (by kernel_rfl) ?_
    refine sv (v := (vP (some ⟨(sb gv), so gv + (c15_ * 4 + 3), none⟩))) (by kernel_rfl) ?_
    refine sv (v := x16_.revs) (x_load1 rfl Try.underlying80 rfl ((Holds.slrd H28_ 1 rfl) _ _ (fm_cell GN.len he18_ (i := 3) rfl))) ?_
    refine sv (v := (vI .i64 ((List.length x16_.l) : Int))) (x_lenRS rfl hxg_ Try.underlying80) ?_
    refine sv (v := (vI .i64 (((List.length x16_.l) : Int) - 1))) (x_bin rfl rfl (ib_sub (IntWalk.i64_in _ (by omega)))) ?_
    refine sv (v := (vB (decide (-1 = ((List.length x16_.l) : Int) - 1)))) (x_bin rfl rfl rfl) ?_
    refine sv (v := (vB (decide (-1 = ((List.length x16_.l) : Int) - 1)))) (x_move rfl) ?_
    rcases Bool.eq_false_or_eq_true (decide (-1 = ((List.length x16_.l) : Int) - 1)) with c41_t | c41_f
    ·have c41_tp : -1 = ((List.length x16_.l) : Int) - 1 := of_decide_eq_true c41_t
     omega
    ·have c41_fp : ¬ (-1 = ((List.length x16_.l) : Int) - 1) := of_decide_eq_false c41_f
     refine S_no (j := 8) (dj := 35) (b := false) rfl rfl (congrArg vB c41_f) (by decide) ?_
     refine S_no (j := 8) (dj := 35) (b := false) rfl rfl (congrArg vB c41_f) (by decide) ?_
     refine S_no (j := 8) (dj := 35) (b := false) rfl rfl (congrArg vB c41_f) (by decide) ?_
     refine S_no (j := 8) (dj := 35) (b := false) rfl rfl (congrArg vB c41_f) (by decide) ?_
     refine S_no (j := 8) (dj := 35) (b := false) rfl rfl (congrArg vB c41_f) (by decide) ?_
     refine S_no (j := 8) (dj := 35) (b := false) rfl rfl (congrArg vB c41_f) (by decide) ?_
     refine S_no (j := 8) (dj := 35) (b := false) rfl rfl (congrArg vB c41_f) (by decide) ?_
     refine S_no (j := 8) (dj := 35) (b := false) rfl rfl (congrArg vB c41_f) (by decide) ?_
     refine S_list (T_pickF (v := (vB false)) (congrArg vB c41_f) rfl ?_)
     refine wpList_nil (X_then (hK40_ _ _ ?_))
     clear hK40_
     refine C_condF rfl ?_
     refine C_skip ?_
     refine R_0 rfl ?_
     have eH42_ : mp K2 mb ([] : List ((Int × Int) × Value)) = mp K2 mb (kmap (iKeptK ((N0 ++ T).map GN.m) at_)) := by rw [iKeptK_in c10_f he17_ he18_ (by omega), iKeptC_none he17_ he18_ he19_]; rfl
     have H42_ : Holds w27_ (ro R :: sl 106 4 gv (List.length (N0 ++ T)) ((N0 ++ T).flatMap GN.cells) :: sl 58 2 lv (List.length ll) (ll.flatMap RV.cells) :: cl kb 104 [(vS ka kl kc), (vI .i64 m), (vI .i64 n), gv] :: mp K2 mb (kmap (iKeptK ((N0 ++ T).map GN.m) at_)) :: F) := cast1 (P := fun c__ => Holds w27_ (ro R :: sl 106 4 gv (List.length (N0 ++ T)) ((N0 ++ T).flatMap GN.cells) :: sl 58 2 lv (List.length ll) (ll.flatMap RV.cells) :: cl kb 104 [(vS ka kl kc), (vI .i64 m), (vI .i64 n), gv] :: c__ :: F)) eH42_ H28_
     have H43_ : Holds w27_ (ro R :: cl kb 104 [(vS ka kl kc), (vI .i64 m), (vI .i64 n), gv] :: sl 106 4 gv (List.length (N0 ++ T)) ((N0 ++ T).flatMap GN.cells) :: sl 58 2 lv (List.length ll) (ll.flatMap RV.cells) :: mp K2 mb (kmap (iKeptK ((N0 ++ T).map GN.m) at_)) :: F) := (Holds.pkF H42_ [0, 2, 0, 0, 0] 0 :)
     exact ⟨_, _, rfl, ⟨rfl, rfl⟩, S32_, H43_⟩
   ·have c39_fp : ¬ (¬ (((List.length x16_.l) : Int) = 0)) := of_decide_eq_false c39_f
    omega
  ·skip
   have S33_ := Same.trans S9_ S29_
   have hcl_ : c20_ < N0.length := by have h_ := hj; rw [he23_] at h_; exact h_
   have hxN_ : N0[c20_]? = some x21_ := by have h_ := he24_; rw [List.getElem?_append_left hcl_] at h_; exact h_
   have hxm_ := List.mem_of_getElem? hxN_
   have hxg_ := hN x21_ hxm_
   have hcT_ : 0 < T.length := List.length_pos_iff.2 (fun h_ => by have h2_ := hTN h_; rw [h2_] at hcl_; simp at hcl_)
   have hlT_ : (N0 ++ T).length = N0.length + T.length := List.length_append
   have hx0_ := hful c20_ x21_ (by omega) he24_
   have hrl_ := rLastN_le x21_.l at_ x21_.l.length
   have hxb_ := hb2 x21_ (List.mem_of_getElem? he24_)
   refine sv (v := (vT #[(vI .i64 (c20_ : Int)), (vI .i64 ((rLastN x21_.l at_ x21_.l.length : Int) - 1))])) (x_move rfl) ?_
   refine sv (v := (vI .i64 (c20_ : Int))) (by kernel_rfl) ?_
   refine sv (v := (vI .i64 ((rLastN x21_.l at_ x21_.l.length : Int) - 1))) (by kernel_rfl) ?_
   refine sv (v := (vI .i64 (c20_ : Int))) (x_assign rfl) ?_
   refine sv (v := (vI .i64 ((rLastN x21_.l at_ x21_.l.length : Int) - 1))) (x_assign rfl) ?_
   refine wpList_nil (X_then (hK13_ _ _ ?_))
   clear hK13_
   refine C_seq (fun K44_ hK44_ => C_reg ?_)
   refine sv (v := (vP (some ⟨kb, 0, none⟩))) (x_move rfl) ?_
   refine sv (v := (vP (some ⟨kb, 0, none⟩))) (by kernel_rfl) ?_
   refine sv (v := (vP (some ⟨kb, 3, none⟩))) (by kernel_rfl) ?_
   refine sv (v := gv) (x_load1 rfl Try.underlying102 rfl ((Holds.rd H28_ 3 rfl) 3 gv rfl)) ?_
   refine sv (v := (vI .i64 (c20_ : Int))) (x_move rfl) ?_
   have hr45_ := Holds.sl_RSw H28_ 1 rfl
   refine sv (v := (vP (some ⟨(sb gv), so gv + (c20_ * 4 + 0), none⟩))) (x_idxSlR (v := gv) rfl hr45_ rfl Try.underlying102 z106 (by omega) (by omega) (by omega : _ = c20_) rfl) ?_
   refine sv (v := (vP (some ⟨(sb gv), so gv + (c20_ * 4 + 0), none⟩))) (x_assign rfl) ?_
   refine wpList_nil (X_then (hK44_ _ _ ?_))
   clear hK44_
   refine C_seq (fun K46_ hK46_ => C_reg ?_)
   refine sv (v := (vP (some ⟨(sb gv), so gv + (c20_ * 4 + 0), none⟩))) (x_move rfl) ?_
   refine S_list (T_callW (al := [(vP (some ⟨(sb gv), so gv + (c20_ * 4 + 0), none⟩))]) rfl rfl cb69 (Calls.into (n := 13) (al := [(vP (some ⟨(sb gv), so gv + (c20_ * 4 + 0), none⟩))]) Try.func69 rfl Try.ntmps69 rfl rfl ?_))
   refine C_seq (fun K47_ hK47_ => C_reg ?_)
   refine sv (v := (vB false)) (x_assign rfl) ?_
   refine wpList_nil (X_then (hK47_ _ _ ?_))
   clear hK47_
   refine C_seq (fun K48_ hK48_ => C_reg ?_)
   refine sv (v := (vP (some ⟨(sb gv), so gv + (c20_ * 4 + 0), none⟩))) (x_move rfl) ?_
   refine sv (v := (vB false)) (by kernel_rfl) ?_
   refine sv (v := (vB false)) (x_move rfl) ?_
   refine S_yes (j := 2) (dj := 5) (b := false) rfl rfl rfl (T_val (v := (vP (some ⟨(sb gv), so gv + (c20_ * 4 + 0), none⟩))) (x_move rfl) ?_)
   refine S_yes (j := 2) (dj := 5) (b := false) rfl rfl rfl (T_val (v := (vP (some ⟨(sb gv), so gv + (c20_ * 4 + 0), none⟩))) (by kernel_rfl) ?_)
   refine S_yes (j := 2) (dj := 5) (b := false) rfl rfl rfl (T_val (v := (vP (some ⟨(sb gv), so gv + (c20_ * 4 + 3), none⟩))) (by kernel_rfl) ?_)
   refine S_yes (j := 2) (dj := 5) (b := false) rfl rfl rfl (T_val (v := x21_.revs) (x_load1 rfl Try.underlying80 rfl ((Holds.slrd H28_ 1 rfl) _ _ (fm_cell GN.len he24_ (i := 3) rfl))) ?_)
   refine S_yes (j := 2) (dj := 5) (b := false) rfl rfl rfl (T_val (v := (vI .i64 ((List.length x21_.l) : Int))) (x_lenRS rfl hxg_ Try.underlying80) ?_)
   refine S_yes (j := 2) (dj := 5) (b := false) rfl rfl rfl (T_val (v := (vB (decide (((List.length x21_.l) : Int) = 0)))) (x_bin rfl rfl rfl) ?_)
   refine S_list (T_pickF (v := (vB (decide (((List.length x21_.l) : Int) = 0)))) rfl rfl ?_)
   refine sv (v := (vB (decide (((List.length x21_.l) : Int) = 0)))) (x_assign rfl) ?_
   refine wpList_nil (X_then (hK48_ _ _ ?_))
   clear hK48_
   refine C_ret ?_
   refine R_any (v := (vB (decide (((List.length x21_.l) : Int) = 0)))) (run_results1 rfl rfl) ⟨_, rfl, ?_⟩
   refine sv (v := (vB (decide (¬ (((List.length x21_.l) : Int) = 0))))) (x_notP rfl) ?_
   refine wpList_nil (X_then (hK46_ _ _ ?_))
   clear hK46_
   refine C_cond (b := decide (¬ (((List.length x21_.l) : Int) = 0))) rfl (fun c49_t => ?_) (fun c49_f => ?_)
   ·have c49_tp : ¬ (((List.length x21_.l) : Int) = 0) := of_decide_eq_true c49_t
    refine C_seq (fun K50_ hK50_ => C_reg ?_)
    refine sv (v := (vI .i64 ((rLastN x21_.l at_ x21_.l.length : Int) - 1))) (x_move rfl) ?_
    refine sv (v := (vP (some ⟨(sb gv), so gv + (c20_ * 4 + 0), none⟩))) (x_move rfl) ?_
    refine sv (v := (vP (some ⟨(sb gv), so gv + (c20_ * 4 + 0), none⟩))) (by kernel_rfl) ?_
    refine sv (v := (vP (some ⟨(sb gv), so gv + (c20_ * 4 + 3), none⟩))) (by kernel_rfl) ?_
    refine sv (v := x21_.revs) (x_load1 rfl Try.underlying80 rfl ((Holds.slrd H28_ 1 rfl) _ _ (fm_cell GN.len he24_ (i := 3) rfl))) ?_
    refine sv (v := (vI .i64 ((List.length x21_.l) : Int))) (x_lenRS rfl hxg_ Try.underlying80) ?_
    refine sv (v := (vI .i64 (((List.length x21_.l) : Int) - 1))) (x_bin rfl rfl (ib_sub (IntWalk.i64_in _ (by omega)))) ?_
    refine sv (v := (vB (decide ((rLastN x21_.l at_ x21_.l.length : Int) - 1 = ((List.length x21_.l) : Int) - 1)))) (x_bin rfl rfl rfl) ?_
    refine sv (v := (vB (decide ((rLastN x21_.l at_ x21_.l.length : Int) - 1 = ((List.length x21_.l) : Int) - 1)))) (x_move rfl) ?_
    rcases Bool.eq_false_or_eq_true (decide ((rLastN x21_.l at_ x21_.l.length : Int) - 1 = ((List.length x21_.l) : Int) - 1)) with c51_t | c51_f
    ·have c51_tp : (rLastN x21_.l at_ x21_.l.length : Int) - 1 = ((List.length x21_.l) : Int) - 1 := of_decide_eq_true c51_t
     refine S_yes (j := 8) (dj := 35) (b := true) rfl rfl (congrArg vB c51_t) (T_val (v := (vI .i64 (c20_ : Int))) (x_move rfl) ?_)
     refine S_yes (j := 8) (dj := 35) (b := true) rfl rfl (congrArg vB c51_t) (T_val (v := (vP (some ⟨kb, 0, none⟩))) (x_move rfl) ?_)
     refine S_yes (j := 8) (dj := 35) (b := true) rfl rfl (congrArg vB c51_t) (T_val (v := (vP (some ⟨kb, 0, none⟩))) (by kernel_rfl) ?_)
     refine S_yes (j := 8) (dj := 35) (b := true) rfl rfl (congrArg vB c51_t) (T_val (v := (vP (some ⟨kb, 3, none⟩))) (by kernel_rfl) ?_)
     refine S_yes (j := 8) (dj := 35) (b := true) rfl rfl (congrArg vB c51_t) (T_val (v := gv) (x_load1 rfl Try.underlying102 rfl ((Holds.rd H28_ 3 rfl) 3 gv rfl)) ?_)
     refine S_yes (j := 8) (dj := 35) (b := true) rfl rfl (congrArg vB c51_t) (T_val (v := (vI .i64 ((List.length (N0 ++ T)) : Int))) (x_lenSl rfl H28_ 1 rfl Try.underlying102) ?_)
     refine S_yes (j := 8) (dj := 35) (b := true) rfl rfl (congrArg vB c51_t) (T_val (v := (vI .i64 (((List.length (N0 ++ T)) : Int) - 1))) (x_bin rfl rfl (ib_sub (IntWalk.i64_in _ (by omega)))) ?_)
     refine S_yes (j := 8) (dj := 35) (b := true) rfl rfl (congrArg vB c51_t) (T_val (v := (vB (decide ((c20_ : Int) ≠ ((List.length (N0 ++ T)) : Int) - 1)))) (x_bin rfl rfl rfl) ?_)
     refine S_list (T_pickT (v := (vB (decide ((c20_ : Int) ≠ ((List.length (N0 ++ T)) : Int) - 1)))) (congrArg vB c51_t) rfl ?_)
     refine wpList_nil (X_then (hK50_ _ _ ?_))
     clear hK50_
     refine C_cond (b := decide ((c20_ : Int) ≠ ((List.length (N0 ++ T)) : Int) - 1)) rfl (fun c52_t => ?_) (fun c52_f => ?_)
     ·have c52_tp : (c20_ : Int) ≠ ((List.length (N0 ++ T)) : Int) - 1 := of_decide_eq_true c52_t
      refine C_reg ?_
      refine sv (v := (Value.map (some mb))) (x_move rfl) ?_
      refine sv (v := (vP (some ⟨(sb gv), so gv + (c20_ * 4 + 0), none⟩))) (x_move rfl) ?_
      refine sv (v := (vP (some ⟨(sb gv), so gv + (c20_ * 4 + 0), none⟩))) (by kernel_rfl) ?_
      refine sv (v := (vP (some ⟨(sb gv), so gv + (c20_ * 4 + 3), none⟩))) (by kernel_rfl) ?_
      refine sv (v := x21_.revs) (x_load1 rfl Try.underlying80 rfl ((Holds.slrd H28_ 1 rfl) _ _ (fm_cell GN.len he24_ (i := 3) rfl))) ?_
      refine sv (v := (vI .i64 ((rLastN x21_.l at_ x21_.l.length : Int) - 1))) (x_move rfl) ?_
      obtain ⟨x53_, hx54_, hm55_⟩ := elem_at x21_.l (rLastN x21_.l at_ x21_.l.length - 1) (by omega)
      have hyy56_ : x53_ = y22_ := Option.some.inj (hx54_.symm.trans he25_)
      refine sv (v := (vP (some ⟨(sb x21_.revs), so x21_.revs + ((rLastN x21_.l at_ x21_.l.length - 1) * 2 + 0), none⟩))) (x_idxRS (v := x21_.revs) rfl hxg_ rfl Try.underlying80 z58 (by omega) (by omega) (by omega : _ = (rLastN x21_.l at_ x21_.l.length - 1)) rfl) ?_
      refine sv (v := (vA #[(vI .i64 x53_.main), (vI .i64 x53_.sub)])) (x_loadN (vs := [(vI .i64 x53_.main), (vI .i64 x53_.sub)]) rfl Try.underlying58 rfl z58 rfl (RC.cells (RS.rc hxg_) (Holds.ro_at H28_ 0 rfl) ((rLastN x21_.l at_ x21_.l.length - 1) * 2 + 0) (fm_cells RV.len hx54_ (i := 0) rfl))) ?_
      refine S_list0 (T_delete (K := K2) (a := (x53_.main, x53_.sub)) rfl rfl (KeyKind.pair (t := 2) ⟨Try.underlying58, by kernel_rfl, by kernel_rfl, by kernel_rfl, rfl, rfl, rfl, rfl, Try.underlying2⟩) Try.underlying95 H28_ 4 rfl ?_)
      intro w57_ S59_ H58_
      have S60_ := Same.trans S33_ S59_
      refine wpList_nil ?_
      refine R_0 rfl ?_
      have eH61_ : mp K2 mb (mdel [((y22_.main, y22_.sub), vA #[])] (x53_.main, x53_.sub)) = mp K2 mb (kmap (iKeptK ((N0 ++ T).map GN.m) at_)) := by rw [hyy56_, iKeptK_out c10_f he23_ he24_ (by omega) (by omega)]; simp [mdel, kmap]
      have H61_ : Holds w57_ (ro R :: sl 106 4 gv (List.length (N0 ++ T)) ((N0 ++ T).flatMap GN.cells) :: sl 58 2 lv (List.length ll) (ll.flatMap RV.cells) :: cl kb 104 [(vS ka kl kc), (vI .i64 m), (vI .i64 n), gv] :: mp K2 mb (kmap (iKeptK ((N0 ++ T).map GN.m) at_)) :: F) := cast1 (P := fun c__ => Holds w57_ (ro R :: sl 106 4 gv (List.length (N0 ++ T)) ((N0 ++ T).flatMap GN.cells) :: sl 58 2 lv (List.length ll) (ll.flatMap RV.cells) :: cl kb 104 [(vS ka kl kc), (vI .i64 m), (vI .i64 n), gv] :: c__ :: F)) eH61_ H58_
      have H62_ : Holds w57_ (ro R :: cl kb 104 [(vS ka kl kc), (vI .i64 m), (vI .i64 n), gv] :: sl 106 4 gv (List.length (N0 ++ T)) ((N0 ++ T).flatMap GN.cells) :: sl 58 2 lv (List.length ll) (ll.flatMap RV.cells) :: mp K2 mb (kmap (iKeptK ((N0 ++ T).map GN.m) at_)) :: F) := (Holds.pkF H61_ [0, 2, 0, 0, 0] 0 :)
      exact ⟨_, _, rfl, ⟨rfl, rfl⟩, S60_, H62_⟩
     ·have c52_fp : ¬ ((c20_ : Int) ≠ ((List.length (N0 ++ T)) : Int) - 1) := of_decide_eq_false c52_f
      omega
    ·have c51_fp : ¬ ((rLastN x21_.l at_ x21_.l.length : Int) - 1 = ((List.length x21_.l) : Int) - 1) := of_decide_eq_false c51_f
     refine S_no (j := 8) (dj := 35) (b := false) rfl rfl (congrArg vB c51_f) (by decide) ?_
     refine S_no (j := 8) (dj := 35) (b := false) rfl rfl (congrArg vB c51_f) (by decide) ?_
     refine S_no (j := 8) (dj := 35) (b := false) rfl rfl (congrArg vB c51_f) (by decide) ?_
     refine S_no (j := 8) (dj := 35) (b := false) rfl rfl (congrArg vB c51_f) (by decide) ?_
     refine S_no (j := 8) (dj := 35) (b := false) rfl rfl (congrArg vB c51_f) (by decide) ?_
     refine S_no (j := 8) (dj := 35) (b := false) rfl rfl (congrArg vB c51_f) (by decide) ?_
     refine S_no (j := 8) (dj := 35) (b := false) rfl rfl (congrArg vB c51_f) (by decide) ?_
     refine S_no (j := 8) (dj := 35) (b := false) rfl rfl (congrArg vB c51_f) (by decide) ?_
     refine S_list (T_pickF (v := (vB false)) (congrArg vB c51_f) rfl ?_)
     refine wpList_nil (X_then (hK50_ _ _ ?_))
     clear hK50_
     refine C_condF rfl ?_
     refine C_skip ?_
     refine R_0 rfl ?_
     have eH63_ : mp K2 mb [((y22_.main, y22_.sub), vA #[])] = mp K2 mb (kmap (iKeptK ((N0 ++ T).map GN.m) at_)) := by rw [iKeptK_in c10_f he23_ he24_ (by omega), iKeptC_some he23_ he24_ he25_ he26_]; rfl
     have H63_ : Holds w27_ (ro R :: sl 106 4 gv (List.length (N0 ++ T)) ((N0 ++ T).flatMap GN.cells) :: sl 58 2 lv (List.length ll) (ll.flatMap RV.cells) :: cl kb 104 [(vS ka kl kc), (vI .i64 m), (vI .i64 n), gv] :: mp K2 mb (kmap (iKeptK ((N0 ++ T).map GN.m) at_)) :: F) := cast1 (P := fun c__ => Holds w27_ (ro R :: sl 106 4 gv (List.length (N0 ++ T)) ((N0 ++ T).flatMap GN.cells) :: sl 58 2 lv (List.length ll) (ll.flatMap RV.cells) :: cl kb 104 [(vS ka kl kc), (vI .i64 m), (vI .i64 n), gv] :: c__ :: F)) eH63_ H28_
     have H64_ : Holds w27_ (ro R :: cl kb 104 [(vS ka kl kc), (vI .i64 m), (vI .i64 n), gv] :: sl 106 4 gv (List.length (N0 ++ T)) ((N0 ++ T).flatMap GN.cells) :: sl 58 2 lv (List.length ll) (ll.flatMap RV.cells) :: mp K2 mb (kmap (iKeptK ((N0 ++ T).map GN.m) at_)) :: F) := (Holds.pkF H63_ [0, 2, 0, 0, 0] 0 :)
     exact ⟨_, _, rfl, ⟨rfl, rfl⟩, S33_, H64_⟩
   ·have c49_fp : ¬ (¬ (((List.length x21_.l) : Int) = 0)) := of_decide_eq_false c49_f
    omega

set_option maxHeartbeats 8000000 in
theorem kKeepT (R : HP) (kb : Nat) (ka : Option Addr) (kl kc : Nat) (m n : Int) (gv lv : Value) (N0 T : List GN) (ll : List RV) (at_ : Int) (mb : Nat) (hT : Tlk T lv ll) (hN : ∀ x ∈ N0, GOk R x) (hb1 : (N0 ++ T).length ≤ 100000) (hb2 : ∀ x ∈ N0 ++ T, x.l.length ≤ 100000) (hTN : T = [] → N0 = []) (hn0 : 0 < (N0 ++ T).length) (hful : ∀ (j : Nat) (x : GN), j + 1 < (N0 ++ T).length → (N0 ++ T)[j]? = some x → 0 < x.l.length) (hT0 : T ≠ []) (hj : cIdx ((N0 ++ T).map GN.m) at_ = N0.length) :
    Tri Try.prog 63 #[(vP (some ⟨kb, 0, none⟩)), (vI .i64 at_), (Value.map (some mb))] R [cl kb 104 [(vS ka kl kc), (vI .i64 m), (vI .i64 n), gv], sl 106 4 gv (List.length (N0 ++ T)) ((N0 ++ T).flatMap GN.cells), sl 58 2 lv (List.length ll) (ll.flatMap RV.cells), mp K2 mb ([] : List ((Int × Int) × Value))] (fun v__ post__ => v__ = (vT #[]) ∧ post__ = [cl kb 104 [(vS ka kl kc), (vI .i64 m), (vI .i64 n), gv], sl 106 4 gv (List.length (N0 ++ T)) ((N0 ++ T).flatMap GN.cells), sl 58 2 lv (List.length ll) (ll.flatMap RV.cells), mp K2 mb (kmap (iKeptK ((N0 ++ T).map GN.m) at_))]) := by
 refine Tri.into (n := 53) (al := [(vP (some ⟨kb, 0, none⟩)), (vI .i64 at_), (Value.map (some mb))]) Try.func63 rfl Try.ntmps63 rfl rfl fun w F H => ?_
 refine C_seq (fun K1_ hK1_ => ?_)
 refine C_seq (fun K2_ hK2_ => C_reg ?_)
 refine sv (v := (vP (some ⟨kb, 0, none⟩))) (x_move rfl) ?_
 have H4_ := ((Holds.bring (Holds.bring (Holds.bring (Holds.bring H 1 rfl) 3 rfl) 3 rfl) 3 rfl) :)
 refine S_list (T_call (al := [(vP (some ⟨kb, 0, none⟩))]) (pre := [sl 106 4 gv (List.length (N0 ++ T)) ((N0 ++ T).flatMap GN.cells), sl 58 2 lv (List.length ll) (ll.flatMap RV.cells), cl kb 104 [(vS ka kl kc), (vI .i64 m), (vI .i64 n), gv]]) rfl rfl cb64 (kEmp R kb ka kl kc m n gv lv N0 T ll (by first | assumption | omega) (by first | assumption | omega) (by first | assumption | omega) (by first | assumption | omega)) H4_ ?_)
 rintro v3_ p8_ w5_ ⟨rfl, rfl⟩ S7_ H6_
 have S9_ := Same.trans (Same.refl w) S7_
 refine wpList_nil (X_then (hK2_ _ _ ?_))
 clear hK2_
 refine C_cond (b := iEmp ((N0 ++ T).map GN.m)) rfl (fun c10_t => ?_) (fun c10_f => ?_)
 ·skip
  refine C_ret (X_thenR ?_)
  refine R_0r rfl ?_
  have eH11_ : mp K2 mb ([] : List ((Int × Int) × Value)) = mp K2 mb (kmap (iKeptK ((N0 ++ T).map GN.m) at_)) := by rw [iKeptK_emp c10_t]; rfl
  have H11_ : Holds w5_ (ro R :: sl 106 4 gv (List.length (N0 ++ T)) ((N0 ++ T).flatMap GN.cells) :: sl 58 2 lv (List.length ll) (ll.flatMap RV.cells) :: cl kb 104 [(vS ka kl kc), (vI .i64 m), (vI .i64 n), gv] :: mp K2 mb (kmap (iKeptK ((N0 ++ T).map GN.m) at_)) :: F) := cast1 (P := fun c__ => Holds w5_ (ro R :: sl 106 4 gv (List.length (N0 ++ T)) ((N0 ++ T).flatMap GN.cells) :: sl 58 2 lv (List.length ll) (ll.flatMap RV.cells) :: cl kb 104 [(vS ka kl kc), (vI .i64 m), (vI .i64 n), gv] :: c__ :: F)) eH11_ H6_
  have H12_ : Holds w5_ (ro R :: cl kb 104 [(vS ka kl kc), (vI .i64 m), (vI .i64 n), gv] :: sl 106 4 gv (List.length (N0 ++ T)) ((N0 ++ T).flatMap GN.cells) :: sl 58 2 lv (List.length ll) (ll.flatMap RV.cells) :: mp K2 mb (kmap (iKeptK ((N0 ++ T).map GN.m) at_)) :: F) := (Holds.pkF H11_ [0, 2, 0, 0, 0] 0 :)
  exact ⟨_, _, rfl, ⟨rfl, rfl⟩, S9_, H12_⟩
 ·skip
  refine C_skip (X_then (hK1_ _ _ ?_))
  clear hK1_
  refine C_seq (fun K13_ hK13_ => C_reg ?_)
  refine sv (v := (vP (some ⟨kb, 0, none⟩))) (x_move rfl) ?_
  refine sv (v := (vI .i64 at_)) (x_move rfl) ?_
  refine sv (v := (Value.map (some mb))) (x_move rfl) ?_
  refine S_list (T_call (al := [(vP (some ⟨kb, 0, none⟩)), (vI .i64 at_), (Value.map (some mb))]) (pre := [sl 106 4 gv (List.length (N0 ++ T)) ((N0 ++ T).flatMap GN.cells), sl 58 2 lv (List.length ll) (ll.flatMap RV.cells), cl kb 104 [(vS ka kl kc), (vI .i64 m), (vI .i64 n), gv], mp K2 mb ([] : List ((Int × Int) × Value))]) rfl rfl cb75 (kDoC R kb ka kl kc m n gv lv N0 T ll at_ mb (by first | assumption | omega) (by first | assumption | omega) (by first | assumption | omega) (by first | assumption | omega) (by first | assumption | omega) (by first | assumption | omega)) H6_ ?_)
  rintro v14_ p30_ w27_ hq31_ S29_ H28_
  rcases hq31_ with ⟨c15_, x16_, rfl, rfl, he17_, he18_, he19_⟩ | ⟨c20_, x21_, y22_, rfl, rfl, he23_, he24_, he25_, he26_⟩
  ·skip
   have S32_ := Same.trans S9_ S29_
   obtain ⟨ta, tb, tc, hT1_⟩ := Tlk_some hT hT0
   have hce_ : c15_ = N0.length := he17_.symm.trans hj
   subst hce_
   have hxE_ : x16_ = (⟨ta, tb, tc, lv, ll⟩ : GN) := by have h_ := he18_; rw [hT1_, gat] at h_; exact (Option.some.inj h_).symm
   subst hxE_
   have H33_ := Holds.resl H28_ 1 rfl (by rw [hT1_] : (N0 ++ T).flatMap GN.cells = (N0 ++ [(⟨ta, tb, tc, lv, ll⟩ : GN)]).flatMap GN.cells) (by rw [hT1_]; simp : (List.length (N0 ++ T)) = (List.length N0 + 1))
   have hrl_ := rLastN_le ll at_ ll.length
   have hxb_ : ll.length ≤ 100000 := hb2 (⟨ta, tb, tc, lv, ll⟩ : GN) (List.mem_of_getElem? he18_)
   have hp2_ := he19_
   skip
   have hp3_ : rLastN ll at_ ll.length = 0 := he19_
   have hlT_ : (N0 ++ T).length = N0.length + T.length := List.length_append
   refine sv (v := (vT #[(vI .i64 ((List.length N0 : Nat) : Int)), (vI .i64 (-1))])) (x_move rfl) ?_
   refine sv (v := (vI .i64 ((List.length N0 : Nat) : Int))) (by kernel_rfl) ?_
   refine sv (v := (vI .i64 (-1))) (by kernel_rfl) ?_
   refine sv (v := (vI .i64 ((List.length N0 : Nat) : Int))) (x_assign rfl) ?_
   refine sv (v := (vI .i64 (-1))) (x_assign rfl) ?_
   refine wpList_nil (X_then (hK13_ _ _ ?_))
   clear hK13_
   refine C_seq (fun K36_ hK36_ => C_reg ?_)
   refine sv (v := (vP (some ⟨kb, 0, none⟩))) (x_move rfl) ?_
   refine sv (v := (vP (some ⟨kb, 0, none⟩))) (by kernel_rfl) ?_
   refine sv (v := (vP (some ⟨kb, 3, none⟩))) (by kernel_rfl) ?_
   refine sv (v := gv) (x_load1 rfl Try.underlying102 rfl ((Holds.rd H33_ 3 rfl) 3 gv rfl)) ?_
   refine sv (v := (vI .i64 ((List.length N0 : Nat) : Int))) (x_move rfl) ?_
   have hr37_ := Holds.sl_RSw H33_ 1 rfl
   refine sv (v := (vP (some ⟨(sb gv), so gv + ((List.length N0) * 4 + 0), none⟩))) (x_idxSlR (v := gv) rfl hr37_ rfl Try.underlying102 z106 (by omega) (by omega) (by omega : _ = (List.length N0)) rfl) ?_
   refine sv (v := (vP (some ⟨(sb gv), so gv + ((List.length N0) * 4 + 0), none⟩))) (x_assign rfl) ?_
   refine wpList_nil (X_then (hK36_ _ _ ?_))
   clear hK36_
   refine C_seq (fun K38_ hK38_ => C_reg ?_)
   refine sv (v := (vP (some ⟨(sb gv), so gv + ((List.length N0) * 4 + 0), none⟩))) (x_move rfl) ?_
   refine S_list (T_callW (al := [(vP (some ⟨(sb gv), so gv + ((List.length N0) * 4 + 0), none⟩))]) rfl rfl cb69 (Calls.into (n := 13) (al := [(vP (some ⟨(sb gv), so gv + ((List.length N0) * 4 + 0), none⟩))]) Try.func69 rfl Try.ntmps69 rfl rfl ?_))
   refine C_seq (fun K39_ hK39_ => C_reg ?_)
   refine sv (v := (vB false)) (x_assign rfl) ?_
   refine wpList_nil (X_then (hK39_ _ _ ?_))
   clear hK39_
   refine C_seq (fun K40_ hK40_ => C_reg ?_)
   refine sv (v := (vP (some ⟨(sb gv), so gv + ((List.length N0) * 4 + 0), none⟩))) (x_move rfl) ?_
   refine sv (v := (vB false)) (by kernel_rfl) ?_
   refine sv (v := (vB false)) (x_move rfl) ?_
   refine S_yes (j := 2) (dj := 5) (b := false) rfl rfl rfl (T_val (v := (vP (some ⟨(sb gv), so gv + ((List.length N0) * 4 + 0), none⟩))) (x_move rfl) ?_)
   refine S_yes (j := 2) (dj := 5) (b := false) rfl rfl rfl (T_val (v := (vP (some ⟨(sb gv), so gv + ((List.length N0) * 4 + 0), none⟩))) (by kernel_rfl) ?_)
   refine S_yes (j := 2) (dj := 5) (b := false) rfl rfl rfl (T_val (v := (vP (some ⟨(sb gv), so gv + ((List.length N0) * 4 + 3), none⟩))) (by kernel_rfl) ?_)
   refine S_yes (j := 2) (dj := 5) (b := false) rfl rfl rfl (T_val (v := lv) (x_load1 rfl Try.underlying80 rfl ((Holds.slrd H33_ 1 rfl) _ _ (fm_cell GN.len (gat _ _) (i := 3) rfl))) ?_)
   refine S_yes (j := 2) (dj := 5) (b := false) rfl rfl rfl (T_val (v := (vI .i64 ((List.length ll) : Int))) (x_lenSl rfl H33_ 2 rfl Try.underlying80) ?_)
   refine S_yes (j := 2) (dj := 5) (b := false) rfl rfl rfl (T_val (v := (vB (decide (((List.length ll) : Int) = 0)))) (x_bin rfl rfl rfl) ?_)
   refine S_list (T_pickF (v := (vB (decide (((List.length ll) : Int) = 0)))) rfl rfl ?_)
   refine sv (v := (vB (decide (((List.length ll) : Int) = 0)))) (x_assign rfl) ?_
   refine wpList_nil (X_then (hK40_ _ _ ?_))
   clear hK40_
   refine C_ret ?_
   refine R_any (v := (vB (decide (((List.length ll) : Int) = 0)))) (run_results1 rfl rfl) ⟨_, rfl, ?_⟩
   refine sv (v := (vB (decide (¬ (((List.length ll) : Int) = 0))))) (x_notP rfl) ?_
   refine wpList_nil (X_then (hK38_ _ _ ?_))
   clear hK38_
   refine C_cond (b := decide (¬ (((List.length ll) : Int) = 0))) rfl (fun c41_t => ?_) (fun c41_f => ?_)
   ·have c41_tp : ¬ (((List.length ll) : Int) = 0) := of_decide_eq_true c41_t
    refine C_seq (fun K42_ hK42_ => C_reg ?_)
    refine sv (v := (vI .i64 (-1))) (x_move rfl) ?_
    refine sv (v := (vP (some ⟨(sb gv), so gv + ((List.length N0) * 4 + 0), none⟩))) (x_move rfl) ?_
    refine sv (v := (vP (some ⟨(sb gv), so gv + ((List.length N0) * 4 + 0), none⟩))) (by kernel_rfl) ?_
    refine sv (v := (vP (some ⟨(sb gv), so gv + ((List.length N0) * 4 + 3), none⟩))) (by kernel_rfl) ?_
    refine sv (v := lv) (x_load1 rfl Try.underlying80 rfl ((Holds.slrd H33_ 1 rfl) _ _ (fm_cell GN.len (gat _ _) (i := 3) rfl))) ?_
    refine sv (v := (vI .i64 ((List.length ll) : Int))) (x_lenSl rfl H33_ 2 rfl Try.underlying80) ?_
    refine sv (v := (vI .i64 (((List.length ll) : Int) - 1))) (x_bin rfl rfl (ib_sub (IntWalk.i64_in _ (by omega)))) ?_
    refine sv (v := (vB (decide (-1 = ((List.length ll) : Int) - 1)))) (x_bin rfl rfl rfl) ?_
    refine sv (v := (vB (decide (-1 = ((List.length ll) : Int) - 1)))) (x_move rfl) ?_
    rcases Bool.eq_false_or_eq_true (decide (-1 = ((List.length ll) : Int) - 1)) with c43_t | c43_f
    ·have c43_tp : -1 = ((List.length ll) : Int) - 1 := of_decide_eq_true c43_t
     omega
    ·have c43_fp : ¬ (-1 = ((List.length ll) : Int) - 1) := of_decide_eq_false c43_f
     refine S_no (j := 8) (dj := 35) (b := false) rfl rfl (congrArg vB c43_f) (by decide) ?_
     refine S_no (j := 8) (dj := 35) (b := false) rfl rfl (congrArg vB c43_f) (by decide) ?_
     refine S_no (j := 8) (dj := 35) (b := false) rfl rfl (congrArg vB c43_f) (by decide) ?_
     refine S_no (j := 8) (dj := 35) (b := false) rfl rfl (congrArg vB c43_f) (by decide) ?_
     refine S_no (j := 8) (dj := 35) (b := false) rfl rfl (congrArg vB c43_f) (by decide) ?_
     refine S_no (j := 8) (dj := 35) (b := false) rfl rfl (congrArg vB c43_f) (by decide) ?_
     refine S_no (j := 8) (dj := 35) (b := false) rfl rfl (congrArg vB c43_f) (by decide) ?_
     refine S_no (j := 8) (dj := 35) (b := false) rfl rfl (congrArg vB c43_f) (by decide) ?_
     refine S_list (T_pickF (v := (vB false)) (congrArg vB c43_f) rfl ?_)
     refine wpList_nil (X_then (hK42_ _ _ ?_))
     clear hK42_
     refine C_condF rfl ?_
     refine C_skip ?_
     refine R_0 rfl ?_
     have H44_ := Holds.resl H33_ 1 rfl ((by first | rfl | (rw [hT1_]; done) | (rw [hT1_]; simp; done) | (simp; done) | (simp; omega)) : (N0 ++ [(⟨ta, tb, tc, lv, ll⟩ : GN)]).flatMap GN.cells = (N0 ++ T).flatMap GN.cells) ((by first | rfl | (rw [hT1_]; done) | (rw [hT1_]; simp; done) | (simp; done) | (simp; omega)) : (List.length N0 + 1) = (List.length (N0 ++ T)))
     have eH45_ : mp K2 mb ([] : List ((Int × Int) × Value)) = mp K2 mb (kmap (iKeptK ((N0 ++ T).map GN.m) at_)) := by rw [iKeptK_in c10_f he17_ he18_ (fun h_ => absurd h_.2 (by rw [hlT_, hT1_]; simp)), iKeptC_none he17_ he18_ he19_]; rfl
     have H45_ : Holds w27_ (ro R :: sl 106 4 gv (List.length (N0 ++ T)) ((N0 ++ T).flatMap GN.cells) :: sl 58 2 lv (List.length ll) (ll.flatMap RV.cells) :: cl kb 104 [(vS ka kl kc), (vI .i64 m), (vI .i64 n), gv] :: mp K2 mb (kmap (iKeptK ((N0 ++ T).map GN.m) at_)) :: F) := cast1 (P := fun c__ => Holds w27_ (ro R :: sl 106 4 gv (List.length (N0 ++ T)) ((N0 ++ T).flatMap GN.cells) :: sl 58 2 lv (List.length ll) (ll.flatMap RV.cells) :: cl kb 104 [(vS ka kl kc), (vI .i64 m), (vI .i64 n), gv] :: c__ :: F)) eH45_ H44_
     have H46_ : Holds w27_ (ro R :: cl kb 104 [(vS ka kl kc), (vI .i64 m), (vI .i64 n), gv] :: sl 106 4 gv (List.length (N0 ++ T)) ((N0 ++ T).flatMap GN.cells) :: sl 58 2 lv (List.length ll) (ll.flatMap RV.cells) :: mp K2 mb (kmap (iKeptK ((N0 ++ T).map GN.m) at_)) :: F) := (Holds.pkF H45_ [0, 2, 0, 0, 0] 0 :)
     exact ⟨_, _, rfl, ⟨rfl, rfl⟩, S32_, H46_⟩
   ·have c41_fp : ¬ (¬ (((List.length ll) : Int) = 0)) := of_decide_eq_false c41_f
    refine C_skip ?_
    refine R_0 rfl ?_
    have H47_ := Holds.resl H33_ 1 rfl ((by first | rfl | (rw [hT1_]; done) | (rw [hT1_]; simp; done) | (simp; done) | (simp; omega)) : (N0 ++ [(⟨ta, tb, tc, lv, ll⟩ : GN)]).flatMap GN.cells = (N0 ++ T).flatMap GN.cells) ((by first | rfl | (rw [hT1_]; done) | (rw [hT1_]; simp; done) | (simp; done) | (simp; omega)) : (List.length N0 + 1) = (List.length (N0 ++ T)))
    have eH48_ : mp K2 mb ([] : List ((Int × Int) × Value)) = mp K2 mb (kmap (iKeptK ((N0 ++ T).map GN.m) at_)) := by rw [iKeptK_in c10_f he17_ he18_ (fun h_ => absurd h_.2 (by rw [hlT_, hT1_]; simp)), iKeptC_none he17_ he18_ he19_]; rfl
    have H48_ : Holds w27_ (ro R :: sl 106 4 gv (List.length (N0 ++ T)) ((N0 ++ T).flatMap GN.cells) :: sl 58 2 lv (List.length ll) (ll.flatMap RV.cells) :: cl kb 104 [(vS ka kl kc), (vI .i64 m), (vI .i64 n), gv] :: mp K2 mb (kmap (iKeptK ((N0 ++ T).map GN.m) at_)) :: F) := cast1 (P := fun c__ => Holds w27_ (ro R :: sl 106 4 gv (List.length (N0 ++ T)) ((N0 ++ T).flatMap GN.cells) :: sl 58 2 lv (List.length ll) (ll.flatMap RV.cells) :: cl kb 104 [(vS ka kl kc), (vI .i64 m), (vI .i64 n), gv] :: c__ :: F)) eH48_ H47_
    have H49_ : Holds w27_ (ro R :: cl kb 104 [(vS ka kl kc), (vI .i64 m), (vI .i64 n), gv] :: sl 106 4 gv (List.length (N0 ++ T)) ((N0 ++ T).flatMap GN.cells) :: sl 58 2 lv (List.length ll) (ll.flatMap RV.cells) :: mp K2 mb (kmap (iKeptK ((N0 ++ T).map GN.m) at_)) :: F) := (Holds.pkF H48_ [0, 2, 0, 0, 0] 0 :)
    exact ⟨_, _, rfl, ⟨rfl, rfl⟩, S32_, H49_⟩
  ·skip
   have S34_ := Same.trans S9_ S29_
   obtain ⟨ta, tb, tc, hT1_⟩ := Tlk_some hT hT0
   have hce_ : c20_ = N0.length := he23_.symm.trans hj
   subst hce_
   have hxE_ : x21_ = (⟨ta, tb, tc, lv, ll⟩ : GN) := by have h_ := he24_; rw [hT1_, gat] at h_; exact (Option.some.inj h_).symm
   subst hxE_
   have H35_ := Holds.resl H28_ 1 rfl (by rw [hT1_] : (N0 ++ T).flatMap GN.cells = (N0 ++ [(⟨ta, tb, tc, lv, ll⟩ : GN)]).flatMap GN.cells) (by rw [hT1_]; simp : (List.length (N0 ++ T)) = (List.length N0 + 1))
   have hrl_ := rLastN_le ll at_ ll.length
   have hxb_ : ll.length ≤ 100000 := hb2 (⟨ta, tb, tc, lv, ll⟩ : GN) (List.mem_of_getElem? he24_)
   have hp2_ := he25_
   skip
   have hp3_ : 0 < rLastN ll at_ ll.length := he26_
   have hlT_ : (N0 ++ T).length = N0.length + T.length := List.length_append
   refine sv (v := (vT #[(vI .i64 ((List.length N0 : Nat) : Int)), (vI .i64 ((rLastN ll at_ ll.length : Int) - 1))])) (x_move rfl) ?_
   refine sv (v := (vI .i64 ((List.length N0 : Nat) : Int))) (by kernel_rfl) ?_
   refine sv (v := (vI .i64 ((rLastN ll at_ ll.length : Int) - 1))) (by kernel_rfl) ?_
   refine sv (v := (vI .i64 ((List.length N0 : Nat) : Int))) (x_assign rfl) ?_
   refine sv (v := (vI .i64 ((rLastN ll at_ ll.length : Int) - 1))) (x_assign rfl) ?_
   refine wpList_nil (X_then (hK13_ _ _ ?_))
   clear hK13_
   refine C_seq (fun K50_ hK50_ => C_reg ?_)
   refine sv (v := (vP (some ⟨kb, 0, none⟩))) (x_move rfl) ?_
   refine sv (v := (vP (some ⟨kb, 0, none⟩))) (by kernel_rfl) ?_
   refine sv (v := (vP (some ⟨kb, 3, none⟩))) (by kernel_rfl) ?_
   refine sv (v := gv) (x_load1 rfl Try.underlying102 rfl ((Holds.rd H35_ 3 rfl) 3 gv rfl)) ?_
   refine sv (v := (vI .i64 ((List.length N0 : Nat) : Int))) (x_move rfl) ?_
   have hr51_ := Holds.sl_RSw H35_ 1 rfl
   refine sv (v := (vP (some ⟨(sb gv), so gv + ((List.length N0) * 4 + 0), none⟩))) (x_idxSlR (v := gv) rfl hr51_ rfl Try.underlying102 z106 (by omega) (by omega) (by omega : _ = (List.length N0)) rfl) ?_
   refine sv (v := (vP (some ⟨(sb gv), so gv + ((List.length N0) * 4 + 0), none⟩))) (x_assign rfl) ?_
   refine wpList_nil (X_then (hK50_ _ _ ?_))
   clear hK50_
   refine C_seq (fun K52_ hK52_ => C_reg ?_)
   refine sv (v := (vP (some ⟨(sb gv), so gv + ((List.length N0) * 4 + 0), none⟩))) (x_move rfl) ?_
   refine S_list (T_callW (al := [(vP (some ⟨(sb gv), so gv + ((List.length N0) * 4 + 0), none⟩))]) rfl rfl cb69 (Calls.into (n := 13) (al := [(vP (some ⟨(sb gv), so gv + ((List.length N0) * 4 + 0), none⟩))]) Try.func69 rfl Try.ntmps69 rfl rfl ?_))
   refine C_seq (fun K53_ hK53_ => C_reg ?_)
   refine sv (v := (vB false)) (x_assign rfl) ?_
   refine wpList_nil (X_then (hK53_ _ _ ?_))
   clear hK53_
   refine C_seq (fun K54_ hK54_ => C_reg ?_)
   refine sv (v := (vP (some ⟨(sb gv), so gv + ((List.length N0) * 4 + 0), none⟩))) (x_move rfl) ?_
   refine sv (v := (vB false)) (by kernel_rfl) ?_
   refine sv (v := (vB false)) (x_move rfl) ?_
   refine S_yes (j := 2) (dj := 5) (b := false) rfl rfl rfl (T_val (v := (vP (some ⟨(sb gv), so gv + ((List.length N0) * 4 + 0), none⟩))) (x_move rfl) ?_)
   refine S_yes (j := 2) (dj := 5) (b := false) rfl rfl rfl (T_val (v := (vP (some ⟨(sb gv), so gv + ((List.length N0) * 4 + 0), none⟩))) (by kernel_rfl) ?_)
   refine S_yes (j := 2) (dj := 5) (b := false) rfl rfl rfl (T_val (v := (vP (some ⟨(sb gv), so gv + ((List.length N0) * 4 + 3), none⟩))) (by kernel_rfl) ?_)
   refine S_yes (j := 2) (dj := 5) (b := false) rfl rfl rfl (T_val (v := lv) (x_load1 rfl Try.underlying80 rfl ((Holds.slrd H35_ 1 rfl) _ _ (fm_cell GN.len (gat _ _) (i := 3) rfl))) ?_)
   refine S_yes (j := 2) (dj := 5) (b := false) rfl rfl rfl (T_val (v := (vI .i64 ((List.length ll) : Int))) (x_lenSl rfl H35_ 2 rfl Try.underlying80) ?_)
   refine S_yes (j := 2) (dj := 5) (b := false) rfl rfl rfl (T_val (v := (vB (decide (((List.length ll) : Int) = 0)))) (x_bin rfl rfl rfl) ?_)
   refine S_list (T_pickF (v := (vB (decide (((List.length ll) : Int) = 0)))) rfl rfl ?_)
   refine sv (v := (vB (decide (((List.length ll) : Int) = 0)))) (x_assign rfl) ?_
   refine wpList_nil (X_then (hK54_ _ _ ?_))
   clear hK54_
   refine C_ret ?_
   refine R_any (v := (vB (decide (((List.length ll) : Int) = 0)))) (run_results1 rfl rfl) ⟨_, rfl, ?_⟩
   refine sv (v := (vB (decide (¬ (((List.length ll) : Int) = 0))))) (x_notP rfl) ?_
   refine wpList_nil (X_then (hK52_ _ _ ?_))
   clear hK52_
   refine C_cond (b := decide (¬ (((List.length ll) : Int) = 0))) rfl (fun c55_t => ?_) (fun c55_f => ?_)
   ·have c55_tp : ¬ (((List.length ll) : Int) = 0) := of_decide_eq_true c55_t
    refine C_seq (fun K56_ hK56_ => C_reg ?_)
    refine sv (v := (vI .i64 ((rLastN ll at_ ll.length : Int) - 1))) (x_move rfl) ?_
    refine sv (v := (vP (some ⟨(sb gv), so gv + ((List.length N0) * 4 + 0), none⟩))) (x_move rfl) ?_
    refine sv (v := (vP (some ⟨(sb gv), so gv + ((List.length N0) * 4 + 0), none⟩))) (by kernel_rfl) ?_
    refine sv (v := (vP (some ⟨(sb gv), so gv + ((List.length N0) * 4 + 3), none⟩))) (by kernel_rfl) ?_
    refine sv (v := lv) (x_load1 rfl Try.underlying80 rfl ((Holds.slrd H35_ 1 rfl) _ _ (fm_cell GN.len (gat _ _) (i := 3) rfl))) ?_
    refine sv (v := (vI .i64 ((List.length ll) : Int))) (x_lenSl rfl H35_ 2 rfl Try.underlying80) ?_
    refine sv (v := (vI .i64 (((List.length ll) : Int) - 1))) (x_bin rfl rfl (ib_sub (IntWalk.i64_in _ (by omega)))) ?_
    refine sv (v := (vB (decide ((rLastN ll at_ ll.length : Int) - 1 = ((List.length ll) : Int) - 1)))) (x_bin rfl rfl rfl) ?_
    refine sv (v := (vB (decide ((rLastN ll at_ ll.length : Int) - 1 = ((List.length ll) : Int) - 1)))) (x_move rfl) ?_
    rcases Bool.eq_false_or_eq_true (decide ((rLastN ll at_ ll.length : Int) - 1 = ((List.length ll) : Int) - 1)) with c57_t | c57_f
    ·have c57_tp : (rLastN ll at_ ll.length : Int) - 1 = ((List.length ll) : Int) - 1 := of_decide_eq_true c57_t
     refine S_yes (j := 8) (dj := 35) (b := true) rfl rfl (congrArg vB c57_t) (T_val (v := (vI .i64 ((List.length N0 : Nat) : Int))) (x_move rfl) ?_)
     refine S_yes (j := 8) (dj := 35) (b := true) rfl rfl (congrArg vB c57_t) (T_val (v := (vP (some ⟨kb, 0, none⟩))) (x_move rfl) ?_)
     refine S_yes (j := 8) (dj := 35) (b := true) rfl rfl (congrArg vB c57_t) (T_val (v := (vP (some ⟨kb, 0, none⟩))) (by kernel_rfl) ?_)
     refine S_yes (j := 8) (dj := 35) (b := true) rfl rfl (congrArg vB c57_t) (T_val (v := (vP (some ⟨kb, 3, none⟩))) (by kernel_rfl) ?_)
     refine S_yes (j := 8) (dj := 35) (b := true) rfl rfl (congrArg vB c57_t) (T_val (v := gv) (x_load1 rfl Try.underlying102 rfl ((Holds.rd H35_ 3 rfl) 3 gv rfl)) ?_)
     refine S_yes (j := 8) (dj := 35) (b := true) rfl rfl (congrArg vB c57_t) (T_val (v := (vI .i64 ((List.length N0 + 1) : Int))) (x_lenSl rfl H35_ 1 rfl Try.underlying102) ?_)
     refine S_yes (j := 8) (dj := 35) (b := true) rfl rfl (congrArg vB c57_t) (T_val (v := (vI .i64 (((List.length N0 + 1) : Int) - 1))) (x_bin rfl rfl (ib_sub (IntWalk.i64_in _ (by omega)))) ?_)
     refine S_yes (j := 8) (dj := 35) (b := true) rfl rfl (congrArg vB c57_t) (T_val (v := (vB (decide (((List.length N0 : Nat) : Int) ≠ ((List.length N0 + 1) : Int) - 1)))) (x_bin rfl rfl rfl) ?_)
     refine S_list (T_pickT (v := (vB (decide (((List.length N0 : Nat) : Int) ≠ ((List.length N0 + 1) : Int) - 1)))) (congrArg vB c57_t) rfl ?_)
     refine wpList_nil (X_then (hK56_ _ _ ?_))
     clear hK56_
     refine C_cond (b := decide (((List.length N0 : Nat) : Int) ≠ ((List.length N0 + 1) : Int) - 1)) rfl (fun c58_t => ?_) (fun c58_f => ?_)
     ·have c58_tp : ((List.length N0 : Nat) : Int) ≠ ((List.length N0 + 1) : Int) - 1 := of_decide_eq_true c58_t
      omega
     ·have c58_fp : ¬ (((List.length N0 : Nat) : Int) ≠ ((List.length N0 + 1) : Int) - 1) := of_decide_eq_false c58_f
      refine C_skip ?_
      refine R_0 rfl ?_
      have H59_ := Holds.resl H35_ 1 rfl ((by first | rfl | (rw [hT1_]; done) | (rw [hT1_]; simp; done) | (simp; done) | (simp; omega)) : (N0 ++ [(⟨ta, tb, tc, lv, ll⟩ : GN)]).flatMap GN.cells = (N0 ++ T).flatMap GN.cells) ((by first | rfl | (rw [hT1_]; done) | (rw [hT1_]; simp; done) | (simp; done) | (simp; omega)) : (List.length N0 + 1) = (List.length (N0 ++ T)))
      have eH60_ : mp K2 mb [((y22_.main, y22_.sub), vA #[])] = mp K2 mb (kmap (iKeptK ((N0 ++ T).map GN.m) at_)) := by rw [iKeptK_in c10_f he23_ he24_ (fun h_ => absurd h_.2 (by rw [hlT_, hT1_]; simp)), iKeptC_some he23_ he24_ he25_ he26_]; rfl
      have H60_ : Holds w27_ (ro R :: sl 106 4 gv (List.length (N0 ++ T)) ((N0 ++ T).flatMap GN.cells) :: sl 58 2 lv (List.length ll) (ll.flatMap RV.cells) :: cl kb 104 [(vS ka kl kc), (vI .i64 m), (vI .i64 n), gv] :: mp K2 mb (kmap (iKeptK ((N0 ++ T).map GN.m) at_)) :: F) := cast1 (P := fun c__ => Holds w27_ (ro R :: sl 106 4 gv (List.length (N0 ++ T)) ((N0 ++ T).flatMap GN.cells) :: sl 58 2 lv (List.length ll) (ll.flatMap RV.cells) :: cl kb 104 [(vS ka kl kc), (vI .i64 m), (vI .i64 n), gv] :: c__ :: F)) eH60_ H59_
      have H61_ : Holds w27_ (ro R :: cl kb 104 [(vS ka kl kc), (vI .i64 m), (vI .i64 n), gv] :: sl 106 4 gv (List.length (N0 ++ T)) ((N0 ++ T).flatMap GN.cells) :: sl 58 2 lv (List.length ll) (ll.flatMap RV.cells) :: mp K2 mb (kmap (iKeptK ((N0 ++ T).map GN.m) at_)) :: F) := (Holds.pkF H60_ [0, 2, 0, 0, 0] 0 :)
      exact ⟨_, _, rfl, ⟨rfl, rfl⟩, S34_, H61_⟩
    ·have c57_fp : ¬ ((rLastN ll at_ ll.length : Int) - 1 = ((List.length ll) : Int) - 1) := of_decide_eq_false c57_f
     refine S_no (j := 8) (dj := 35) (b := false) rfl rfl (congrArg vB c57_f) (by decide) ?_
     refine S_no (j := 8) (dj := 35) (b := false) rfl rfl (congrArg vB c57_f) (by decide) ?_
     refine S_no (j := 8) (dj := 35) (b := false) rfl rfl (congrArg vB c57_f) (by decide) ?_
     refine S_no (j := 8) (dj := 35) (b := false) rfl rfl (congrArg vB c57_f) (by decide) ?_
     refine S_no (j := 8) (dj := 35) (b := false) rfl rfl (congrArg vB c57_f) (by decide) ?_
     refine S_no (j := 8) (dj := 35) (b := false) rfl rfl (congrArg vB c57_f) (by decide) ?_
     refine S_no (j := 8) (dj := 35) (b := false) rfl rfl (congrArg vB c57_f) (by decide) ?_
     refine S_no (j := 8) (dj := 35) (b := false) rfl rfl (congrArg vB c57_f) (by decide) ?_
     refine S_list (T_pickF (v := (vB false)) (congrArg vB c57_f) rfl ?_)
     refine wpList_nil (X_then (hK56_ _ _ ?_))
     clear hK56_
     refine C_condF rfl ?_
     refine C_skip ?_
     refine R_0 rfl ?_
     have H62_ := Holds.resl H35_ 1 rfl ((by first | rfl | (rw [hT1_]; done) | (rw [hT1_]; simp; done) | (simp; done) | (simp; omega)) : (N0 ++ [(⟨ta, tb, tc, lv, ll⟩ : GN)]).flatMap GN.cells = (N0 ++ T).flatMap GN.cells) ((by first | rfl | (rw [hT1_]; done) | (rw [hT1_]; simp; done) | (simp; done) | (simp; omega)) : (List.length N0 + 1) = (List.length (N0 ++ T)))
     have eH63_ : mp K2 mb [((y22_.main, y22_.sub), vA #[])] = mp K2 mb (kmap (iKeptK ((N0 ++ T).map GN.m) at_)) := by rw [iKeptK_in c10_f he23_ he24_ (fun h_ => absurd h_.2 (by rw [hlT_, hT1_]; simp)), iKeptC_some he23_ he24_ he25_ he26_]; rfl
     have H63_ : Holds w27_ (ro R :: sl 106 4 gv (List.length (N0 ++ T)) ((N0 ++ T).flatMap GN.cells) :: sl 58 2 lv (List.length ll) (ll.flatMap RV.cells) :: cl kb 104 [(vS ka kl kc), (vI .i64 m), (vI .i64 n), gv] :: mp K2 mb (kmap (iKeptK ((N0 ++ T).map GN.m) at_)) :: F) := cast1 (P := fun c__ => Holds w27_ (ro R :: sl 106 4 gv (List.length (N0 ++ T)) ((N0 ++ T).flatMap GN.cells) :: sl 58 2 lv (List.length ll) (ll.flatMap RV.cells) :: cl kb 104 [(vS ka kl kc), (vI .i64 m), (vI .i64 n), gv] :: c__ :: F)) eH63_ H62_
     have H64_ : Holds w27_ (ro R :: cl kb 104 [(vS ka kl kc), (vI .i64 m), (vI .i64 n), gv] :: sl 106 4 gv (List.length (N0 ++ T)) ((N0 ++ T).flatMap GN.cells) :: sl 58 2 lv (List.length ll) (ll.flatMap RV.cells) :: mp K2 mb (kmap (iKeptK ((N0 ++ T).map GN.m) at_)) :: F) := (Holds.pkF H63_ [0, 2, 0, 0, 0] 0 :)
     exact ⟨_, _, rfl, ⟨rfl, rfl⟩, S34_, H64_⟩
   ·have c55_fp : ¬ (¬ (((List.length ll) : Int) = 0)) := of_decide_eq_false c55_f
    omega

theorem kKeep (R : HP) (kb : Nat) (ka : Option Addr) (kl kc : Nat) (m n : Int) (gv lv : Value) (N0 T : List GN) (ll : List RV) (at_ : Int) (mb : Nat) (hT : Tlk T lv ll) (hN : ∀ x ∈ N0, GOk R x) (hb1 : (N0 ++ T).length ≤ 100000) (hb2 : ∀ x ∈ N0 ++ T, x.l.length ≤ 100000) (hTN : T = [] → N0 = []) (hn0 : 0 < (N0 ++ T).length) (hful : ∀ (j : Nat) (x : GN), j + 1 < (N0 ++ T).length → (N0 ++ T)[j]? = some x → 0 < x.l.length) :
    Tri Try.prog 63 #[(vP (some ⟨kb, 0, none⟩)), (vI .i64 at_), (Value.map (some mb))] R [cl kb 104 [(vS ka kl kc), (vI .i64 m), (vI .i64 n), gv], sl 106 4 gv (List.length (N0 ++ T)) ((N0 ++ T).flatMap GN.cells), sl 58 2 lv (List.length ll) (ll.flatMap RV.cells), mp K2 mb ([] : List ((Int × Int) × Value))] (fun v__ post__ => v__ = (vT #[]) ∧ post__ = [cl kb 104 [(vS ka kl kc), (vI .i64 m), (vI .i64 n), gv], sl 106 4 gv (List.length (N0 ++ T)) ((N0 ++ T).flatMap GN.cells), sl 58 2 lv (List.length ll) (ll.flatMap RV.cells), mp K2 mb (kmap (iKeptK ((N0 ++ T).map GN.m) at_))]) := by
  rcases cIdx_at (at_ := at_) hT hn0 with hj | ⟨hT0, hj⟩
  · exact kKeepN R kb ka kl kc m n gv lv N0 T ll at_ mb hT hN hb1 hb2 hTN hn0 hful hj
  · exact kKeepT R kb ka kl kc m n gv lv N0 T ll at_ mb hT hN hb1 hb2 hTN hn0 hful hT0 hj
end Go.Proofs.Ytiblemgccgbhoaa
set_option linter.unusedVariables false
set_option linter.unusedSimpArgs false
namespace Go.Proofs.Ytiblemgccgbhoaa
open Go Go.RowKit Gw
open Go.Value renaming int → vI, bool → vB, slice → vS, pointer → vP, agg → vA, tuple → vT

def kmGet : Option (Int × Int × Int × Int × Int) → KM
  | some (a, b, c, d, e) => ⟨true, a, b, c, d, e, [], 0, 0, []⟩
  | none => kmOk false
def gPos (G : List GM) : Bool := G.all fun g => g.l.all fun r => decide (1 ≤ r.main)
theorem gPos_N {N : List GN} (h : gPos (N.map GN.m) = true) : ∀ x ∈ N, ∀ r ∈ x.l, 1 ≤ r.main := fun x hx r hr => by
  have h1 := List.all_eq_true.1 h x.m (List.mem_map_of_mem hx)
  exact of_decide_eq_true (List.all_eq_true.1 h1 r hr)
def gFull (G : List GM) : Bool := G.dropLast.all fun g => decide (0 < g.l.length)
theorem gFull_N {N : List GN} (h : gFull (N.map GN.m) = true) : ∀ (j : Nat) (x : GN), j + 1 < N.length → N[j]? = some x → 0 < x.l.length := fun j x hj hx => by
  have hm : x.m ∈ (N.map GN.m).dropLast := by
    refine List.mem_of_getElem? (i := j) ?_
    rw [List.getElem?_dropLast, List.length_map, if_pos (by omega), List.getElem?_map, hx]; rfl
  exact of_decide_eq_true (List.all_eq_true.1 h x.m hm)
def gZero : GM := ⟨0, 0, 0, []⟩
/-- One operation of a key's index; none: refused, or another one. -/
def iDo (m n : Int) (G : List GM) (o : KO) : Option ((Int × Int × List GM) × KM) :=
  if o.kind = 1 then (if vLessB m n o.rev_Main o.rev_Sub then some ((o.rev_Main, o.rev_Sub, iPut G o.rev_Main o.rev_Sub), kmOk true) else none)
  else if o.kind = 2 then (if iEmp G || G.isEmpty then none else if (gLast G).l.length = 0 then some ((m, n, G), kmOk false) else if vLessB m n o.rev_Main o.rev_Sub then some ((o.rev_Main, o.rev_Sub, iPut G o.rev_Main o.rev_Sub ++ [gZero]), kmOk true) else none)
  else if o.kind = 5 then (if iEmp G then none else some ((m, n, G), kmGet (iGet G o.at_)))
  else if o.kind = 6 then (if iEmp G || G.isEmpty || !gPos G then none else some ((m, n, G), kmRev (iSince G o.at_)))
  else if o.kind = 7 then (if iEmp G || G.isEmpty || !gFull G then none else some ((m, n, iCompact G o.at_), kmRev (iKeptC G o.at_)))
  else if o.kind = 8 then (if G.isEmpty || !gFull G then none else some ((m, n, G), kmRev (iKeptK G o.at_)))
  else none
def KM.to (a : KM) (s : Int × Int × List GM) : KM := ⟨a.ok, a.mm, a.ms, a.cm, a.cs, a.ver, a.rl, s.1, s.2.1, s.2.2⟩
section
variable {m n : Int} {G : List GM} {o : KO} {s : Int × Int × List GM} {a : KM}
theorem iDo_no (h1 : ¬ o.kind = 1) (h2 : ¬ o.kind = 2) (h5 : ¬ o.kind = 5) (h6 : ¬ o.kind = 6) (h7 : ¬ o.kind = 7) (h8 : ¬ o.kind = 8) : iDo m n G o = none := by
  unfold iDo; rw [if_neg h1, if_neg h2, if_neg h5, if_neg h6, if_neg h7, if_neg h8]
theorem iDo_put (h1 : o.kind = 1) (h : iDo m n G o = some (s, a)) : vLessB m n o.rev_Main o.rev_Sub = true ∧ s = (o.rev_Main, o.rev_Sub, iPut G o.rev_Main o.rev_Sub) ∧ a = kmOk true := by
  unfold iDo at h
  rw [if_pos h1] at h
  split at h
  · cases h; exact ⟨by assumption, rfl, rfl⟩
  · cases h
theorem iDo_end (h2 : o.kind = 2) (h : iDo m n G o = some (s, a)) : (iEmp G = false ∧ G ≠ []) ∧ (((gLast G).l.length = 0 ∧ s = (m, n, G) ∧ a = kmOk false) ∨ (¬ (gLast G).l.length = 0 ∧ vLessB m n o.rev_Main o.rev_Sub = true ∧ s = (o.rev_Main, o.rev_Sub, iPut G o.rev_Main o.rev_Sub ++ [gZero]) ∧ a = kmOk true)) := by
  unfold iDo at h
  rw [if_neg (by omega), if_pos h2] at h
  split at h
  · cases h
  · rename_i hc
    simp only [Bool.or_eq_true, not_or, Bool.not_eq_true, List.isEmpty_iff] at hc
    refine ⟨⟨hc.1, fun e => by rw [e] at hc; simp at hc⟩, ?_⟩
    split at h
    · cases h; exact .inl ⟨by assumption, rfl, rfl⟩
    · split at h
      · cases h; exact .inr ⟨by assumption, by assumption, rfl, rfl⟩
      · cases h
theorem iDo_get (h5 : o.kind = 5) (h : iDo m n G o = some (s, a)) : iEmp G = false ∧ s = (m, n, G) ∧ a = kmGet (iGet G o.at_) := by
  unfold iDo at h
  rw [if_neg (by omega), if_neg (by omega), if_pos h5] at h
  split at h
  · cases h
  · cases h; exact ⟨by simp_all, rfl, rfl⟩
theorem iDo_since (h6 : o.kind = 6) (h : iDo m n G o = some (s, a)) : (iEmp G = false ∧ G ≠ [] ∧ gPos G = true) ∧ s = (m, n, G) ∧ a = kmRev (iSince G o.at_) := by
  unfold iDo at h
  rw [if_neg (by omega), if_neg (by omega), if_neg (by omega), if_pos h6] at h
  split at h
  · cases h
  · rename_i hc
    cases h
    simp only [Bool.or_eq_true, not_or, Bool.not_eq_true, Bool.not_eq_false', List.isEmpty_iff, Bool.not_eq_true'] at hc
    exact ⟨⟨hc.1.1, (fun e => by rw [e] at hc; simp at hc), (by simpa using hc.2)⟩, rfl, rfl⟩
theorem iDo_compact (h7 : o.kind = 7) (h : iDo m n G o = some (s, a)) : (iEmp G = false ∧ G ≠ [] ∧ gFull G = true) ∧ s = (m, n, iCompact G o.at_) ∧ a = kmRev (iKeptC G o.at_) := by
  unfold iDo at h
  rw [if_neg (by omega), if_neg (by omega), if_neg (by omega), if_neg (by omega), if_pos h7] at h
  split at h
  · cases h
  · rename_i hc
    cases h
    simp only [Bool.or_eq_true, not_or, Bool.not_eq_true, Bool.not_eq_false', List.isEmpty_iff, Bool.not_eq_true'] at hc
    exact ⟨⟨hc.1.1, (fun e => by rw [e] at hc; simp at hc), (by simpa using hc.2)⟩, rfl, rfl⟩
theorem iDo_keep (h8 : o.kind = 8) (h : iDo m n G o = some (s, a)) : (G ≠ [] ∧ gFull G = true) ∧ s = (m, n, G) ∧ a = kmRev (iKeptK G o.at_) := by
  unfold iDo at h
  rw [if_neg (by omega), if_neg (by omega), if_neg (by omega), if_neg (by omega), if_neg (by omega), if_pos h8] at h
  split at h
  · cases h
  · rename_i hc
    cases h
    simp only [Bool.or_eq_true, not_or, Bool.not_eq_true, Bool.not_eq_false', List.isEmpty_iff, Bool.not_eq_true'] at hc
    exact ⟨⟨(fun e => by rw [e] at hc; simp at hc), (by simpa using hc.2)⟩, rfl, rfl⟩
end
def GBd (B : Nat) (G : List GM) : Prop := G.length ≤ B ∧ ∀ g ∈ G, g.l.length ≤ B ∧ 0 ≤ g.ver ∧ g.ver ≤ (B : Int)
theorem GBd.of {B : Nat} {N : List GN} (h : GBd B (N.map GN.m)) : N.length ≤ B ∧ ∀ x ∈ N, x.l.length ≤ B ∧ 0 ≤ x.ver ∧ x.ver ≤ (B : Int) := by
  refine ⟨by have := h.1; rwa [List.length_map] at this, fun x hx => h.2 x.m (List.mem_map_of_mem hx)⟩
theorem GBd.l {B C : Nat} {N : List GN} (h : GBd B (N.map GN.m)) (hc : B ≤ C) : ∀ x ∈ N, x.l.length ≤ C := fun x hx => Nat.le_trans (h.of.2 x hx).1 hc
theorem GBd.v {B : Nat} {C : Int} {N : List GN} (h : GBd B (N.map GN.m)) (hc : (B : Int) ≤ C) : ∀ x ∈ N, 0 ≤ x.ver ∧ x.ver ≤ C := fun x hx => by
  have := h.of.2 x hx
  omega
theorem Tlk_ll {N T : List GN} {lv : Value} {ll : List RV} {B : Nat} (hT : Tlk T lv ll) (h : ∀ x ∈ N ++ T, x.l.length ≤ B) : ll.length ≤ B := by
  rcases hT with ⟨_, _, rfl⟩ | ⟨a, b, c, rfl⟩
  · exact Nat.zero_le _
  · exact h _ (List.mem_append_right _ (List.mem_singleton.2 rfl))
theorem iEmp_ne {N : List GN} (h : iEmp (N.map GN.m) = false) : ∀ x, N = [x] → ¬ x.l.length = 0 := fun x hx => by
  rw [hx] at h
  exact of_decide_eq_false h
theorem gLast_mem {G : List GM} (h : G ≠ []) : gLast G ∈ G := by
  unfold gLast
  rw [List.getLast?_eq_some_getLast h]
  exact List.getLast_mem h
theorem iPut_bd {B : Nat} {G : List GM} {m n : Int} (h : GBd B G) : GBd (B + 1) (iPut G m n) := by
  have hn : GBd (B + 1) (iNew G) ∧ (iNew G ≠ []) ∧ ∀ g ∈ iNew G, g.l.length ≤ B ∧ 0 ≤ g.ver ∧ g.ver ≤ (B : Int) := by
    unfold iNew
    split
    · refine ⟨⟨by simp, ?_⟩, by simp, ?_⟩ <;> (intro g hg; rcases List.mem_singleton.1 hg with rfl; simp)
      omega
    · rename_i h0
      refine ⟨⟨by have := h.1; omega, fun g hg => ?_⟩, fun e => h0 (by rw [e]; rfl), h.2⟩
      have := h.2 g hg
      omega
  obtain ⟨h1, h2, h3⟩ := hn
  have h4 := h3 _ (gLast_mem h2)
  have hlen : 0 < (iNew G).length := List.length_pos_iff.2 h2
  refine ⟨by unfold iPut; have := h1.1; simp; omega, fun g hg => ?_⟩
  rcases List.mem_append.1 hg with hg | hg
  · exact h1.2 g (List.dropLast_subset _ hg)
  · rcases List.mem_singleton.1 hg with rfl
    unfold iAdd
    refine ⟨by simp; omega, by show 0 ≤ (gLast (iNew G)).ver + 1; omega, by show (gLast (iNew G)).ver + 1 ≤ _; omega⟩
theorem sStep_len (at_ : Int) : ∀ (l : List RV) (s : List RV × Int), (l.foldl (sStep at_) s).1.length ≤ s.1.length + l.length := by
  intro l
  induction l with
  | nil => intro s; exact Nat.le_refl _
  | cons r l ih =>
    intro s
    have h1 : (sStep at_ s r).1.length ≤ s.1.length + 1 := by
      unfold sStep
      split
      · omega
      · split
        · simp only [List.length_append, List.length_dropLast, List.length_cons, List.length_nil]; omega
        · simp only [List.length_append, List.length_cons, List.length_nil]; omega
    have := ih (sStep at_ s r)
    rw [List.foldl_cons, List.length_cons]
    omega
theorem flat_len : ∀ (G : List GM), (∀ g ∈ G, g.l.length ≤ 50000) → (G.flatMap GM.l).length ≤ G.length * 50000
  | [], _ => Nat.le_refl _
  | g :: G, h => by
    have h1 := h g (List.mem_cons_self ..)
    have h2 := flat_len G fun x hx => h x (List.mem_cons_of_mem _ hx)
    rw [List.flatMap_cons, List.length_append, List.length_cons]
    omega
theorem iSince_bd {B : Nat} {G : List GM} {at_ : Int} (h : GBd B G) (hB : B ≤ 50000) : (iSince G at_).length ≤ 4000000000000 := by
  unfold iSince
  have h1 := sStep_len at_ ((G.drop (sStartN G at_ (G.length - 1))).flatMap GM.l) ([], 0)
  have h2 := flat_len (G.drop (sStartN G at_ (G.length - 1))) fun g hg => by have := h.2 g (List.mem_of_mem_drop hg); omega
  have h3 := h.1
  rw [List.length_drop] at h2
  simp only [List.length_nil, Nat.zero_add] at h1
  omega

theorem GBd.up {B : Nat} {G : List GM} (h : GBd B G) : GBd (B + 1) G := ⟨by have := h.1; omega, fun g hg => by have := h.2 g hg; omega⟩
theorem iPut_len {G : List GM} {m n : Int} (h : G ≠ []) : (iPut G m n).length = G.length := by
  have h0 : ¬ G.length = 0 := fun e => h (List.eq_nil_of_length_eq_zero e)
  unfold iPut iNew
  rw [if_neg h0]
  simp
  omega
theorem iEnd_bd {B : Nat} {G : List GM} {m n : Int} (h : GBd B G) (h0 : G ≠ []) : GBd (B + 1) (iPut G m n ++ [gZero]) := by
  have h1 := iPut_bd (m := m) (n := n) h
  refine ⟨by rw [List.length_append, iPut_len h0]; have := h.1; simp; omega, fun g hg => ?_⟩
  rcases List.mem_append.1 hg with hg | hg
  · exact h1.2 g hg
  · rcases List.mem_singleton.1 hg with rfl
    exact ⟨Nat.zero_le _, Int.le_refl 0, by show (0 : Int) ≤ _; omega⟩
theorem iCompact_bd {B : Nat} {G : List GM} {at_ : Int} (h : GBd B G) : GBd B (iCompact G at_) := by
  unfold iCompact
  split
  · exact ⟨Nat.zero_le _, fun g hg => by cases hg⟩
  · rename_i g r e
    have hl : (g :: r).length ≤ B := by rw [← e, List.length_drop]; have := h.1; omega
    have hm : ∀ x ∈ g :: r, x ∈ G := fun x hx => List.mem_of_mem_drop (e ▸ hx)
    refine ⟨by simpa using hl, fun x hx => ?_⟩
    rcases List.mem_cons.1 hx with rfl | hx
    · have := h.2 g (hm g (List.mem_cons_self ..))
      refine ⟨?_, this.2⟩
      show (g.l.drop _).length ≤ B
      rw [List.length_drop]; omega
    · exact h.2 x (hm x (List.mem_cons_of_mem _ hx))
theorem gLast_T {N T : List GN} {lv : Value} {ll : List RV} (hT : Tlk T lv ll) (h0 : T ≠ []) : (gLast ((N ++ T).map GN.m)).l = ll := by
  obtain ⟨a, b, c, rfl⟩ := Tlk_some hT h0
  simp [gLast, GN.m]
theorem T_ne {N T : List GN} (hTN : T = [] → N = []) (h : (N ++ T).map GN.m ≠ []) : T ≠ [] := fun e => h (by rw [e, hTN e]; rfl)
theorem map_pos {N : List GN} (h : N.map GN.m ≠ []) : 0 < N.length := by rw [← List.length_map (f := GN.m)]; exact List.length_pos_iff.2 h

end Go.Proofs.Ytiblemgccgbhoaa
