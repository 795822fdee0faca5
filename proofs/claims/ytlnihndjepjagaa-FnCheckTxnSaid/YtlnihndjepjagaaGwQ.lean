/- The own words of these proofs for maps of one's own; and small ones. -/
import Derived.Test.YtlnihndjepjagaaGwN
import Derived.Test.YtlnihndjepjagaaGwP
import Derived.Maps.Keyed
import Derived.MapKept
set_option linter.unusedVariables false
set_option linter.unusedSimpArgs false
set_option linter.unusedSectionVars false
namespace Go.Proofs.Ytlnihndjepjagaa.Gw
open Go Go.RowKit
theorem lcons {α : Type} {a b : α} {l m : List α} (h : a = b) (k : l = m) : a :: l = b :: m := by subst h; subst k; rfl
theorem sl_eq {a : Option Addr} {n m c d : Nat} (h : n = m) (k : c = d) : Value.slice a n c = .slice a m d := by subst h; subst k; rfl
theorem map_at {α β : Type} {f : α → β} {l : List α} {k : Nat} {x : α} (h : l[k]? = some x) : (l.map f)[k]? = some (f x) := by simp [h]
theorem cl_RSn {b T k sz cap : Nat} {xs : List Value} {h R : HP} (a : cl b T xs h) (hs : Sub h R) (hl : xs.length = k * sz) (hc : k ≤ cap) : RS R sz (.slice (some ⟨b, 0, none⟩) k cap) k xs :=
  ⟨hl, _, _, rfl, hc, fun _ => ⟨b, 0, rfl, cl_RC a hs⟩⟩
/-! ### Pieces made of pieces -/
def grp (l : List SP) : SP := fun h => Sat l h
theorem Holds.ungrp {w : World} {l m : List SP} (h : Holds w (grp l :: m)) : Holds w (l ++ m) := by
  obtain ⟨h1, k, s, t, d, a, r⟩ := h
  exact Sat.append.2 ⟨h1, k, s, t, d, a, r⟩
theorem Holds.grp {w : World} {l m : List SP} (h : Holds w (l ++ m)) : Holds w (Gw.grp l :: m) := by
  obtain ⟨h1, k, s, t, d, a, r⟩ := Sat.append.1 h
  exact ⟨h1, k, s, t, d, a, r⟩
theorem Sat.of_eq {l m : List SP} {g : HP} (e : l = m) (h : Sat l g) : Sat m g := e ▸ h
theorem Holds.of_eq {w : World} {l m : List SP} (h : Holds w l) (e : l = m) : Holds w m := e ▸ h
/-! ### A map of one's own: its keys are 'K a', for things a that can be told apart -/
section
variable {α : Type} [DecidableEq α]
def Born (es : List MapEntry) (clock : Nat) : Prop := (∀ e ∈ es, e.born < clock) ∧ es.Pairwise fun a b => a.born ≠ b.born
def mp (K : α → Value) (b : Nat) (m : List (α × Value)) : SP := fun h => ∃ es clock, h b = some (.map es clock) ∧ es.toList.map (fun e => (e.key, e.val)) = m.map (fun p => (K p.1, p.2)) ∧ Born es.toList clock
def mget (m : List (α × Value)) (a : α) : Option Value := (m.find? fun p => p.1 = a).map (·.2)
def mset (m : List (α × Value)) (a : α) (v : Value) : List (α × Value) := if m.any (fun p => p.1 = a) then m.map (fun p => if p.1 = a then (p.1, v) else p) else m ++ [(a, v)]
def mdel (m : List (α × Value)) (a : α) : List (α × Value) := m.eraseP fun p => p.1 = a
/-- What makes K a kind of keys. -/
structure KeyKind (P : Program) (k : TypeId) (K : α → Value) : Prop where
  inj : ∀ a b, K a = K b → a = b
  check : ∀ (w : World) (em : Bool) a, (Instr.checkKey em 10000 k (K a)).run P w = .ok () w
  find : ∀ (w : World) a (es : List MapEntry) (m : List α), es.map (·.key) = m.map K →
    (Instr.findKey k (K a) es).run P w = .ok ((m.findIdx? (· = a)).bind fun i => (es[i]?).map fun e => (i, e.val)) w
  stays : ∀ (w : World) a, (Instr.keyThatStays (K a) (K a)).run P w = .ok (K a) w
variable {P : Program} {w : World} {l : List SP} {n : Nat} {e : Env} {K' : Value → World → Prop} {d : Option Nat} {ty : TypeId} {pos : String} {af : Array Edge} {g : Option (Nat × Bool)}
theorem findNow_kind {D : TypeDesc} {K : α → Value} (hs : ∀ a b, Instr.sameNow D (K a) (K b) = some (decide (a = b))) (a : α) : ∀ (es : List MapEntry) (m : List α) (i : Nat), es.map (·.key) = m.map K →
    Instr.findNow D (K a) es i = some ((m.findIdx? (· = a)).bind fun j => (es[j]?).map fun e => (i + j, e.val))
  | [], [], i, _ => by simp [Instr.findNow]
  | [], _ :: _, i, h => by simp at h
  | _ :: _, [], i, h => by simp at h
  | e :: es, x :: m, i, h => by
    simp only [List.map_cons, List.cons.injEq] at h
    have ih := findNow_kind hs a es m (i + 1) h.2
    unfold Instr.findNow
    rw [h.1, hs]
    by_cases hx : x = a
    · subst hx
      simp [List.findIdx?_cons]
    · have hx' : ¬ a = x := fun e => hx e.symm
      simp only [hx', decide_false, List.findIdx?_cons, hx]
      rw [ih]
      cases hm : List.findIdx? (fun x => decide (x = a)) m with
      | none => simp
      | some j => simp [Nat.add_assoc, Nat.add_comm 1 j]
theorem sameBits_int (q : IntKind) (a : Int) (n : Nat) : Instr.sameBits n (.int q a) (.int q a) = true := by cases n <;> simp [Instr.sameBits]
theorem sameBits_string (a : ByteArray) (n : Nat) : Instr.sameBits n (.string a) (.string a) = true := by cases n <;> simp [Instr.sameBits, Go.MapKept.bytes_beq]
theorem checkKey_int {k : TypeId} {q : IntKind} (hk : P.underlying k = some (.int q)) (em : Bool) (v : Value) (n : Nat) : (Instr.checkKey em (n + 1) k v).run P w = .ok () w := by simp [Instr.checkKey, run_underlying hk]
theorem checkKey_string {k : TypeId} (hk : P.underlying k = some .string) (em : Bool) (v : Value) (n : Nat) : (Instr.checkKey em (n + 1) k v).run P w = .ok () w := by simp [Instr.checkKey, run_underlying hk]
theorem ba_beq (a b : ByteArray) : (a == b) = decide (a = b) := by
  rw [Bool.eq_iff_iff, Go.MapKept.bytes_beq]; simp
theorem KeyKind.int {k : TypeId} {q : IntKind} (hk : P.underlying k = some (.int q)) : KeyKind P k (Value.int q) where
  inj := fun a b h => by injection h
  check := fun w em a => checkKey_int hk em _ 9999
  find := fun w a es m h => by
    have := findNow_kind (D := .int q) (K := Value.int q) (fun a b => by simp only [Instr.sameNow, if_true]; rw [Bool.beq_eq_decide_eq]) a es m 0 h
    simp only [Instr.findKey, Sem.run_bind, run_underlying hk, Result.andThen_ok, this]
    simp
  stays := fun w a => by
    simp only [Instr.keyThatStays, sameBits_int, if_true]; rfl
theorem KeyKind.string {k : TypeId} (hk : P.underlying k = some .string) : KeyKind P k Value.string where
  inj := fun a b h => by injection h
  check := fun w em a => checkKey_string hk em _ 9999
  find := fun w a es m h => by
    have := findNow_kind (D := .string) (K := Value.string) (fun a b => by simp only [Instr.sameNow]; rw [ba_beq]) a es m 0 h
    simp only [Instr.findKey, Sem.run_bind, run_underlying hk, Result.andThen_ok, this]
    simp
  stays := fun w a => by
    simp only [Instr.keyThatStays, sameBits_string, if_true]; rfl
theorem Holds.mp_block {K : α → Value} (h : Holds w l) (i : Nat) {b : Nat} {m : List (α × Value)} (hi : l[i]? = some (mp K b m)) :
    ∃ es clock, w.heap[b]? = some (.map es clock) ∧ es.toList.map (fun e => (e.key, e.val)) = m.map (fun p => (K p.1, p.2)) ∧ Born es.toList clock := by
  obtain ⟨h', s, es, clock, a, b, c⟩ := Sat.at i hi h
  exact ⟨es, clock, s _ _ a, b, c⟩
def MpRd (K : α → Value) (b : Nat) (m : List (α × Value)) (w : World) : Prop := ∃ es clock, w.heap[b]? = some (.map es clock) ∧ es.toList.map (fun e => (e.key, e.val)) = m.map (fun p => (K p.1, p.2)) ∧ Born es.toList clock
theorem Holds.mprd {K : α → Value} (h : Holds w l) (i : Nat) {b : Nat} {m : List (α × Value)} (hi : l[i]? = some (mp K b m)) : MpRd K b m w := h.mp_block i hi
theorem run_getObj {r : Nat} {es : Array MapEntry} {clock : Nat} (h : w.heap[r]? = some (.map es clock)) : (getObj r).run P w = .ok (.map es clock) w := by simp [getObj, Sem.run, h]
theorem mp_find {K : α → Value} {es : List MapEntry} {m : List (α × Value)} (h : es.map (fun e => (e.key, e.val)) = m.map (fun p => (K p.1, p.2))) (a : α) :
    (((m.map (·.1)).findIdx? (· = a)).bind fun i => (es[i]?).map fun e => (i, e.val)) = ((m.findIdx? fun p => p.1 = a).bind fun i => (m[i]?).map fun p => (i, p.2)) := by
  have h1 : (m.map (·.1)).findIdx? (fun x => decide (x = a)) = m.findIdx? (fun p => decide (p.1 = a)) := by rw [List.findIdx?_map]; rfl
  rw [h1]
  cases m.findIdx? (fun p => decide (p.1 = a)) with
  | none => rfl
  | some i =>
    have : (es.map fun e => (e.key, e.val))[i]? = (m.map fun p => (K p.1, p.2))[i]? := by rw [h]
    simp only [List.getElem?_map] at this
    cases h2 : es[i]? <;> cases h3 : m[i]? <;> simp_all
theorem mget_idx (m : List (α × Value)) (a : α) : ((m.findIdx? fun p => p.1 = a).bind fun i => (m[i]?).map fun p => (i, p.2)).map (·.2) = mget m a := by
  unfold mget
  induction m with
  | nil => rfl
  | cons p m ih =>
    by_cases hp : p.1 = a
    · simp [List.findIdx?_cons, hp]
    · simp only [List.findIdx?_cons, hp, decide_false, List.find?_cons]
      rw [← ih]
      cases List.findIdx? (fun p => decide (p.1 = a)) m <;> simp [Function.comp_def]
theorem run_lookup {K : α → Value} {t k el : TypeId} (kk : KeyKind P k K) (ht : P.underlying t = some (.map k el)) {sz bb : Nat} {z : Value} (hz : tin P el = some (sz, bb, some z)) {b : Nat} {m : List (α × Value)} (h : MpRd K b m w) (a : α) (ok : Bool) :
    (Instr.lookup t (.map (some b)) (K a) ok).run P w = .ok (if ok then .tuple #[(mget m a).getD z, .bool (mget m a).isSome] else (mget m a).getD z) w := by
  obtain ⟨es, clock, hb, he, _⟩ := h
  have hkeys : es.toList.map (·.key) = (m.map (·.1)).map K := by
    have := congrArg (List.map (·.1)) he
    simpa [List.map_map, Function.comp_def] using this
  have hf := kk.find w a es.toList (m.map (·.1)) hkeys
  rw [mp_find he a] at hf
  have hg := mget_idx m a
  simp only [Instr.lookup, Sem.run_bind, run_underlying ht, Result.andThen_ok, run_getObj hb, Sem.run_pure, kk.check, hf]
  rw [← hg]
  cases (m.findIdx? fun p => p.1 = a).bind fun i => (m[i]?).map fun p => (i, p.2) with
  | none => simp [run_zeroValue hz]
  | some r => simp
theorem x_lookup {K : α → Value} {t k el : TypeId} {x y : Operand} {b : Nat} {m : List (α × Value)} {a : α} {ok : Bool} {sz bb : Nat} {z v : Value} (hx : ev n e x = .map (some b)) (hy : ev n e y = K a) (kk : KeyKind P k K) (ht : P.underlying t = some (.map k el))
    (hz : tin P el = some (sz, bb, some z)) (h : MpRd K b m w) (hv : (if ok then Value.tuple #[(mget m a).getD z, .bool (mget m a).isSome] else (mget m a).getD z) = v) :
    (execOp (ev n e) ⟨d, .lookup t x y ok, ty, pos, af, g⟩).run P w = .ok (.value v) w := by
  subst hv
  simp only [execOp]
  refine run_v _ ?_
  rw [hx, hy]
  exact run_lookup kk ht hz h a ok
theorem x_lookupNil {K : α → Value} {t k el : TypeId} {x y : Operand} {a : α} {ok : Bool} {sz bb : Nat} {z v : Value} (hx : ev n e x = .map none) (hy : ev n e y = K a) (kk : KeyKind P k K) (ht : P.underlying t = some (.map k el))
    (hz : tin P el = some (sz, bb, some z)) (hv : (if ok then Value.tuple #[z, .bool false] else z) = v) :
    (execOp (ev n e) ⟨d, .lookup t x y ok, ty, pos, af, g⟩).run P w = .ok (.value v) w := by
  subst hv
  have hf := kk.find w a [] [] rfl
  simp only [execOp]
  refine run_v _ ?_
  rw [hx, hy]
  simp only [Instr.lookup, Sem.run_bind, run_underlying ht, Result.andThen_ok, Sem.run_pure, kk.check, hf]
  simp [run_zeroValue hz]
/-- The block of a map, written anew. -/
theorem Holds.mp_set {K : α → Value} (h : Holds w l) (i : Nat) {b : Nat} {m m' : List (α × Value)} (hi : l[i]? = some (mp K b m)) {w' : World} {o' : Obj} (hw : w'.heap = w.heap.setIfInBounds b o')
    (ho : ∃ es clock, o' = .map es clock ∧ es.toList.map (fun e => (e.key, e.val)) = m'.map (fun p => (K p.1, p.2)) ∧ Born es.toList clock) : Holds w' (l.set i (mp K b m')) := by
  obtain ⟨es0, clock0, e, _, _⟩ := h.mp_block i hi
  have hb : b < w.heap.size := by
    rcases Nat.lt_or_ge b w.heap.size with x | x
    · exact x
    · rw [Array.getElem?_eq_none x] at e; cases e
  have hw : hp w' = upb (hp w) b o' := by
    refine hp_setBlock _ _ _ _ (by rw [hw]; simp [hb]) (fun c hc => by rw [hw]; simp [Ne.symm hc])
  unfold Holds
  rw [hw]
  refine Sat.upb_at i hi h (fun h ⟨_, _, e', _⟩ => ⟨_, e'⟩) fun h _ => ?_
  obtain ⟨es, clock, rfl, h1, h2⟩ := ho
  exact ⟨es, clock, by simp [upb], h1, h2⟩
theorem mset_none {m : List (α × Value)} {a : α} (h : m.findIdx? (fun p => p.1 = a) = none) (v : Value) : mset m a v = m ++ [(a, v)] := by
  unfold mset
  rw [if_neg]
  rw [List.findIdx?_eq_none_iff] at h
  simp only [List.any_eq_true, not_exists, not_and, decide_eq_true_eq]
  intro p hp hpa
  have := h p hp
  simp [hpa] at this
theorem mset_some {m : List (α × Value)} {a : α} {i : Nat} (h : m.findIdx? (fun p => p.1 = a) = some i) (nd : (m.map (·.1)).Nodup) (v : Value) : ∀ K : α → Value, (mset m a v).map (fun p => (K p.1, p.2)) = (m.map fun p => (K p.1, p.2)).modify i fun p => (K a, v) := by
  intro K
  have hany : m.any (fun p => p.1 = a) = true := by
    rw [List.findIdx?_eq_some_iff_getElem] at h
    obtain ⟨hi, h1, _⟩ := h
    exact List.any_eq_true.2 ⟨m[i], List.getElem_mem hi, h1⟩
  unfold mset
  rw [if_pos hany]
  clear hany
  induction m generalizing i with
  | nil => simp at h
  | cons p m ih =>
    simp only [List.map_cons, List.nodup_cons] at nd
    by_cases hp : p.1 = a
    · simp only [List.findIdx?_cons, hp, decide_true, if_true, Option.some.injEq] at h
      subst h
      simp only [List.map_cons, hp, if_true, List.modify_zero_cons, List.cons.injEq, true_and, List.map_map]
      refine List.map_congr_left fun q hq => ?_
      have : q.1 ≠ a := fun e => nd.1 (hp ▸ e ▸ List.mem_map_of_mem hq)
      simp [this]
    · simp only [List.findIdx?_cons, hp, decide_false] at h
      cases hm : List.findIdx? (fun p => decide (p.1 = a)) m with
      | none => rw [hm] at h; simp at h
      | some j =>
        rw [hm] at h
        simp only [Bool.false_eq_true, if_false, Option.map_some, Option.some.injEq] at h
        subst h
        simp only [List.map_cons, hp, if_false, List.modify_succ_cons]
        rw [ih hm nd.2]
theorem Born.push {es : List MapEntry} {clock : Nat} (h : Born es clock) (k v : Value) : Born (es ++ [⟨k, v, clock⟩]) (clock + 1) := by
  refine ⟨fun x hx => ?_, ?_⟩
  · rcases List.mem_append.1 hx with hx | hx
    · have := h.1 x hx; omega
    · simp only [List.mem_singleton] at hx; subst hx; show clock < clock + 1; omega
  · rw [List.pairwise_append]
    exact ⟨h.2, List.pairwise_singleton _ _, fun a ha b hb => by
      simp only [List.mem_singleton] at hb; subst hb
      have := h.1 a ha
      show a.born ≠ clock
      omega⟩
theorem Born.same {es es' : List MapEntry} {clock : Nat} (h : Born es clock) (e : es'.map (·.born) = es.map (·.born)) : Born es' clock := by
  refine ⟨fun x hx => ?_, ?_⟩
  · have : x.born ∈ es.map (·.born) := e ▸ List.mem_map_of_mem hx
    obtain ⟨y, hy, e2⟩ := List.mem_map.1 this
    rw [← e2]; exact h.1 y hy
  · have h2 : (es.map (·.born)).Pairwise (· ≠ ·) := List.pairwise_map.2 h.2
    rw [← e] at h2
    exact List.pairwise_map.1 h2
theorem Born.erase {es : List MapEntry} {clock : Nat} (h : Born es clock) (i : Nat) : Born (es.eraseIdx i) clock :=
  ⟨fun x hx => h.1 x (List.mem_of_mem_eraseIdx hx), h.2.sublist (List.eraseIdx_sublist es i)⟩
theorem run_mapUpdate {K : α → Value} {t k el : TypeId} (kk : KeyKind P k K) (ht : P.underlying t = some (.map k el)) (h : Holds w l) (i : Nat) {b : Nat} {m : List (α × Value)} (hi : l[i]? = some (mp K b m)) (nd : (m.map (·.1)).Nodup) (a : α) (v : Value) :
    ∃ w', (Instr.mapUpdate t (.map (some b)) (K a) v).run P w = .ok () w' ∧ Same w w' ∧ Holds w' (l.set i (mp K b (mset m a v))) := by
  obtain ⟨es, clock, hb, he, hbo⟩ := h.mp_block i hi
  have hkeys : es.toList.map (·.key) = (m.map (·.1)).map K := by
    have := congrArg (List.map (·.1)) he
    simpa [List.map_map, Function.comp_def] using this
  have hf := kk.find w a es.toList (m.map (·.1)) hkeys
  rw [mp_find he a] at hf
  simp only [Instr.mapUpdate, Sem.run_bind, run_underlying ht, Result.andThen_ok, run_getObj hb, kk.check, hf]
  have hlen : es.toList.length = m.length := by simpa using congrArg List.length he
  cases hm : m.findIdx? (fun p => decide (p.1 = a)) with
  | none =>
    simp only [Option.bind_none, Go.MapKept.run_setObj_map _ hb]
    refine ⟨_, rfl, ⟨rfl, rfl, rfl⟩, h.mp_set i hi (o' := .map (es.push ⟨K a, v, clock⟩) (clock + 1)) rfl ⟨_, _, rfl, ?_, ?_⟩⟩
    · rw [mset_none hm]; simp [he]
    · simpa using hbo.push (K a) v
  | some j =>
    have hj : j < m.length := by
      rw [List.findIdx?_eq_some_iff_getElem] at hm
      exact hm.1
    have hj' : j < es.toList.length := by omega
    have hjs : j < es.size := by simpa using hj'
    have hk : (es[j]?).map (·.key) = some (K a) := by
      have h1 := congrArg (fun l : List (Value × Value) => l[j]?) he
      simp only [List.getElem?_map] at h1
      rw [List.findIdx?_eq_some_iff_getElem] at hm
      obtain ⟨_, hp, _⟩ := hm
      have hp' : m[j].1 = a := by simpa using hp
      rw [List.getElem?_eq_getElem hj, List.getElem?_eq_getElem hj'] at h1
      simp only [Option.map_some, Option.some.injEq, Prod.mk.injEq, hp'] at h1
      simp [hjs, ← h1.1]
    simp only [Option.bind_some, List.getElem?_eq_getElem hj, Option.map_some, hk, Option.getD_some, kk.stays, Sem.run_bind, Result.andThen_ok, Go.MapKept.run_setObj_map _ hb]
    refine ⟨_, rfl, ⟨rfl, rfl, rfl⟩, h.mp_set i hi (o' := .map (es.modify j fun e => { e with key := K a, val := v }) clock) rfl ⟨_, _, rfl, ?_, ?_⟩⟩
    · rw [mset_some hm nd v K, ← he, Array.toList_modify]
      apply List.ext_getElem? ; intro q
      simp only [List.getElem?_map, List.getElem?_modify]
      cases es.toList[q]? <;> simp <;> split <;> simp_all
    · refine hbo.same ?_
      rw [Array.toList_modify]
      apply List.ext_getElem? ; intro q
      simp only [List.getElem?_map, List.getElem?_modify]
      cases es.toList[q]? <;> simp <;> split <;> simp_all
theorem T_mapUpdate {K : α → Value} {t k el : TypeId} {x y z : Operand} {b : Nat} {m : List (α × Value)} {a : α} {v : Value} (hx : ev n e x = .map (some b)) (hy : ev n e y = K a) (hz : ev n e z = v) (kk : KeyKind P k K) (ht : P.underlying t = some (.map k el))
    (h : Holds w l) (i : Nat) (hi : l[i]? = some (mp K b m)) (nd : (m.map (·.1)).Nodup) (c : ∀ w', Same w w' → Holds w' (l.set i (mp K b (mset m a v))) → K' undef w') : Stp P n e ⟨d, .mapUpdate t x y z, ty, pos, af, g⟩ w K' := by
  obtain ⟨w', hr, hs, hh⟩ := run_mapUpdate kk ht h i hi nd a v
  refine .inr (.inl ⟨w', ?_, c w' hs hh⟩)
  simp only [execOp, hx, hy, hz]
  simp [hr]
theorem mdel_none {m : List (α × Value)} {a : α} (h : m.findIdx? (fun p => p.1 = a) = none) : mdel m a = m := by
  rw [List.findIdx?_eq_none_iff] at h
  refine List.eraseP_of_forall_not fun p hp => ?_
  have := h p hp
  simp [this]
theorem mdel_some {m : List (α × Value)} {a : α} {i : Nat} (h : m.findIdx? (fun p => p.1 = a) = some i) : mdel m a = m.eraseIdx i := by
  unfold mdel
  induction m generalizing i with
  | nil => simp at h
  | cons p m ih =>
    by_cases hp : p.1 = a
    · simp only [List.findIdx?_cons, hp, decide_true, if_true, Option.some.injEq] at h
      subst h; simp [hp]
    · simp only [List.findIdx?_cons, hp, decide_false] at h
      cases hm : List.findIdx? (fun p => decide (p.1 = a)) m with
      | none => rw [hm] at h; simp at h
      | some j =>
        rw [hm] at h
        simp only [Bool.false_eq_true, if_false, Option.map_some, Option.some.injEq] at h
        subst h
        simp [hp, ih hm]
theorem run_delete {K : α → Value} {t k el u : TypeId} {tu : TypeId} (kk : KeyKind P k K) (ht : P.underlying t = some (.map k el)) (h : Holds w l) (i : Nat) {b : Nat} {m : List (α × Value)} (hi : l[i]? = some (mp K b m)) (a : α) :
    ∃ w', (Builtin.delete_ #[t, u] tu #[.map (some b), K a]).run P w = .ok (.tuple #[]) w' ∧ Same w w' ∧ Holds w' (l.set i (mp K b (mdel m a))) := by
  obtain ⟨es, clock, hb, he, hbo⟩ := h.mp_block i hi
  have hkeys : es.toList.map (·.key) = (m.map (·.1)).map K := by
    have := congrArg (List.map (·.1)) he
    simpa [List.map_map, Function.comp_def] using this
  have hf := kk.find w a es.toList (m.map (·.1)) hkeys
  rw [mp_find he a] at hf
  simp only [Builtin.delete_, List.getElem?_toArray, List.getElem?_cons_zero, List.getElem?_cons_succ, Sem.run_bind, run_underlying ht, Result.andThen_ok, run_getObj hb, kk.check, hf]
  have hlen : es.toList.length = m.length := by simpa using congrArg List.length he
  cases hm : m.findIdx? (fun p => decide (p.1 = a)) with
  | none =>
    simp only [Option.bind_none, Sem.run_bind, Sem.run_pure, Go.MapKept.run_setObj_map _ hb, Result.andThen_ok]
    refine ⟨_, rfl, ⟨rfl, rfl, rfl⟩, h.mp_set i hi (o' := .map es clock) rfl ⟨_, _, rfl, ?_, hbo⟩⟩
    rw [mdel_none hm, he]
  | some j =>
    have hj : j < m.length := by
      rw [List.findIdx?_eq_some_iff_getElem] at hm
      exact hm.1
    simp only [Option.bind_some, List.getElem?_eq_getElem hj, Option.map_some, Sem.run_bind, Sem.run_pure, Go.MapKept.run_setObj_map _ hb, Result.andThen_ok]
    refine ⟨_, rfl, ⟨rfl, rfl, rfl⟩, h.mp_set i hi (o' := .map (es.eraseIdxIfInBounds j) clock) rfl ⟨_, _, rfl, ?_, ?_⟩⟩
    · rw [mdel_some hm, Array.toList_eraseIdxIfInBounds]
      apply List.ext_getElem? ; intro q
      have := fun q : Nat => congrArg (fun l : List (Value × Value) => l[q]?) he
      simp only [List.getElem?_map] at this
      simp only [List.getElem?_map, List.getElem?_eraseIdx]
      split <;> rw [this]
    · rw [Array.toList_eraseIdxIfInBounds]; exact hbo.erase j
theorem T_delete {K : α → Value} {t k el u : TypeId} {x y : Operand} {b : Nat} {m : List (α × Value)} {a : α} (hx : ev n e x = .map (some b)) (hy : ev n e y = K a) (kk : KeyKind P k K) (ht : P.underlying t = some (.map k el))
    (h : Holds w l) (i : Nat) (hi : l[i]? = some (mp K b m)) (c : ∀ w', Same w w' → Holds w' (l.set i (mp K b (mdel m a))) → K' (.tuple #[]) w') : Stp P n e ⟨d, .call { callee := .builtin .delete, args := #[x, y], argTypes := #[t, u] }, ty, pos, af, g⟩ w K' := by
  obtain ⟨w', hr, hs, hh⟩ := run_delete (u := u) (tu := ty) kk ht h i hi a
  refine .inl ⟨.tuple #[], w', ?_, c w' hs hh⟩
  simp only [execOp, resolve, Sem.run_bind, Sem.run_pure, Result.andThen_ok, invoke, builtin]
  simp [hx, hy, hr]
theorem x_lenMp {K : α → Value} {t k el : TypeId} {x : Operand} {b : Nat} {m : List (α × Value)} (hx : ev n e x = .map (some b)) (ht : P.underlying t = some (.map k el)) (h : MpRd K b m w) :
    (execOp (ev n e) ⟨d, .call { callee := .builtin .len, args := #[x], argTypes := #[t] }, ty, pos, af, g⟩).run P w = .ok (.value (.int .i64 (m.length : Int))) w := by
  obtain ⟨es, clock, hb, he, _⟩ := h
  have hlen : es.size = m.length := by simpa using congrArg List.length he
  simp only [execOp, resolve, Sem.run_bind, Sem.run_pure, Result.andThen_ok, invoke, builtin]
  simp [hx, Builtin.len_, run_underlying ht, run_getObj hb, goInt, hlen]
theorem T_makeMap {t : TypeId} (K : α → Value) (h : Holds w l) (c : ∀ b w', Same w w' → Holds w' (mp K b [] :: l) → K' (.map (some b)) w') : Stp P n e ⟨d, .makeMap t none, ty, pos, af, g⟩ w K' := by
  refine T_new (obj := .map #[] 0) (f := fun b => .map (some b)) (A := fun b => mp K b []) ?_ (fun l h => ?_) h c
  · simp only [execOp]; rfl
  · refine Sat.head_map (A := ob w.heap.size (.map #[] 0)) ?_ (h.allocOb (.map #[] 0))
    intro h' a
    exact ⟨#[], 0, a, rfl, (fun x hx => by simp at hx), List.Pairwise.nil⟩
end
end Go.Proofs.Ytlnihndjepjagaa.Gw
