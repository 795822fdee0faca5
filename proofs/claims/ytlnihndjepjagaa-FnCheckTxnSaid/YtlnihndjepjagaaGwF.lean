/- The own words of these proofs for a walk: slices of one's own, append, strings and bytes. -/
import Derived.Test.YtlnihndjepjagaaGwE
import Derived.Deep.AppendSrc
import Derived.Lib.ConvBytes
set_option linter.unusedVariables false
set_option linter.unusedSimpArgs false
namespace Go.Proofs.Ytlnihndjepjagaa.Gw
open Go Go.RowKit
section
variable {P : Program} {n : Nat} {e : Env} {w : World} {K : Value → World → Prop} {Q : Exit → Act → World → Prop} {ops : Array Oper} {rest : List Oper} {ds : List Deferred}
  {d : Option Nat} {ty : TypeId} {pos : String} {af : Array Edge} {g : Option (Nat × Bool)} {l : List SP}

/-- The value v is a slice of m elements (of sz cells, of type T), whose cells are xs; its row is ours. -/
def sl (T sz : Nat) (v : Value) (m : Nat) (xs : List Value) : SP := fun h =>
  (v = .slice none 0 0 ∧ m = 0 ∧ xs = []) ∨ ∃ b pr sp cap, v = .slice (some ⟨b, pr.length, none⟩) m cap ∧ xs.length = m * sz ∧ sp.length = (cap - m) * sz ∧ m ≤ cap ∧ cl b T (pr ++ xs ++ sp) h
theorem sl_nil (T sz : Nat) (h : HP) : sl T sz (.slice none 0 0) 0 [] h := .inl ⟨rfl, rfl, rfl⟩
theorem Sat.add_free {A : SP} (hA : ∀ h, A h) {l : List SP} {g : HP} (h : Sat l g) : Sat (A :: l) g :=
  ⟨(fun _ => none), g, (fun _ _ e => by cases e), Sub.rfl' g, (fun _ => Or.inl rfl), hA _, h⟩
theorem Holds.add_nil (h : Holds w l) (T sz : Nat) : Holds w (sl T sz (.slice none 0 0) 0 [] :: l) := Sat.add_free (sl_nil T sz) h
theorem Holds.add_pu (h : Holds w l) {p : Prop} (hp : p) : Holds w (Gw.pu p :: l) := Sat.add_free (fun _ => hp) h
theorem Sat.map_at {A B : SP} {g : HP} (i : Nat) (hi : l[i]? = some A) (f : ∀ h, A h → B h) (h : Sat l g) : Sat (l.set i B) g :=
  Sat.set i hi h fun h' k s t d a => ⟨h', s, t, d, f h' a⟩
theorem Holds.map_at {A B : SP} (h : Holds w l) (i : Nat) (hi : l[i]? = some A) (f : ∀ h, A h → B h) : Holds w (l.set i B) := Sat.map_at i hi f h
/-- A row made by the call is a slice of one's own. -/
theorem Holds.to_sl (h : Holds w l) (i : Nat) {b T sz m cap : Nat} {xs : List Value} (pr sp : List Value) (hi : l[i]? = some (cl b T (pr ++ xs ++ sp))) (h1 : xs.length = m * sz) (h2 : sp.length = (cap - m) * sz) (h3 : m ≤ cap) :
    Holds w (l.set i (sl T sz (.slice (some ⟨b, pr.length, none⟩) m cap) m xs)) :=
  h.map_at i hi fun h' a => .inr ⟨b, pr, sp, cap, rfl, h1, h2, h3, a⟩
theorem Holds.sl_at (h : Holds w l) (i : Nat) {T sz m : Nat} {v : Value} {xs : List Value} (hi : l[i]? = some (sl T sz v m xs)) :
    (v = .slice none 0 0 ∧ m = 0 ∧ xs = []) ∨ ∃ b pr sp cap, v = .slice (some ⟨b, pr.length, none⟩) m cap ∧ xs.length = m * sz ∧ sp.length = (cap - m) * sz ∧ m ≤ cap ∧ Holds w (l.set i (cl b T (pr ++ xs ++ sp))) := by
  obtain ⟨h1, k, s, t, dd, a, r⟩ := Sat.bring i hi h
  rcases a with a | ⟨b, pr, sp, cap, e1, e2, e3, e4, a⟩
  · exact .inl a
  · refine .inr ⟨b, pr, sp, cap, e1, e2, e3, e4, ?_⟩
    have hl : i < l.length := (List.getElem?_eq_some_iff.1 hi).1
    refine Sat.back i (A := cl b T (pr ++ xs ++ sp)) (by simp [hl]) ?_
    rw [List.eraseIdx_set_eq]
    exact ⟨h1, k, s, t, dd, a, r⟩
theorem Holds.sl_len (h : Holds w l) (i : Nat) {T sz m : Nat} {v : Value} {xs : List Value} (hi : l[i]? = some (sl T sz v m xs)) : xs.length = m * sz ∧ ∃ a cap, v = .slice a m cap ∧ m ≤ cap := by
  rcases h.sl_at i hi with ⟨rfl, rfl, rfl⟩ | ⟨b, pr, sp, cap, rfl, e2, e3, e4, _⟩
  · exact ⟨by simp, _, _, rfl, Nat.le_refl _⟩
  · exact ⟨e2, _, _, rfl, e4⟩
/-- What an append reads of its second argument. -/
theorem Holds.sl_src (h : Holds w l) (i : Nat) {T sz m t e' : Nat} {v : Value} {xs : List Value} (hi : l[i]? = some (sl T sz v m xs)) (hk : P.underlying t = some (.slice e')) (h1 : ∀ u ∈ xs, u.oneCell' = true) :
    Src P sz t v m xs w := by
  rcases h.sl_at i hi with ⟨rfl, rfl, rfl⟩ | ⟨b, pr, sp, cap, rfl, e2, e3, e4, hh⟩
  · exact Src.ofNil w hk 0
  · refine Src.ofSlice w hk _ _ _ _ e2 (fun j u hj => ?_) h1
    rw [add_mk]
    have hl : i < l.length := (List.getElem?_eq_some_iff.1 hi).1
    refine hh.cl_cell i (b := b) (T := T) (cs := pr ++ xs ++ sp) (by simp [hl]) ?_
    have hj' : j < xs.length := (List.getElem?_eq_some_iff.1 hj).1
    rw [List.append_assoc, List.getElem?_append_right (by omega), show pr.length + j - pr.length = j by omega, List.getElem?_append_left hj', hj]
theorem Holds.cl_src (h : Holds w l) (i : Nat) {b T sz m c t e' : Nat} {xs : List Value} (hi : l[i]? = some (cl b T xs)) (hk : P.underlying t = some (.slice e')) (h1 : ∀ u ∈ xs, u.oneCell' = true) (hl : xs.length = m * sz) :
    Src P sz t (.slice (some ⟨b, 0, none⟩) m c) m xs w :=
  Src.ofSlice w hk _ _ _ _ hl (fun j u hj => by rw [add_mk, Nat.zero_add]; exact h.cl_cell i hi hj) h1
theorem setCells_eq (b : Nat) : ∀ (vs : List Value) (o : Nat) (w : World), w.setCells b o vs = setCells w b o vs
  | [], _, _ => rfl
  | v :: r, o, w => setCells_eq b r (o + 1) _
theorem Same.drew_alloc (w : World) (o : Obj) : Same w (w.drew.alloc o) := ⟨rfl, rfl, rfl⟩

theorem run_append_sl {t tx ty el sz bb m k : Nat} {z v x : Value} {xs ys : List Value} (ht : P.underlying t = some (.slice el)) (hz : tin P el = some (sz, bb, some z)) (hzs : z.cells.size = sz) (hb : 0 < bb)
    (h : Holds w l) (i : Nat) (hi : l[i]? = some (sl el sz v m xs)) (hs : Src P sz tx x k ys w) (hroom : (m + k) * bb ≤ 140737488355328) :
    ∃ v' w', (Builtin.append_ #[t, tx] ty #[v, x]).run P w = .ok v' w' ∧ Same w w' ∧ Holds w' (l.set i (sl el sz v' (m + k) (xs ++ ys))) := by
  obtain ⟨ti, hti, h1, h2, h3⟩ := tin_info hz
  have hl : i < l.length := (List.getElem?_eq_some_iff.1 hi).1
  have hset : l.set i (sl el sz v m xs) = l := by
    obtain ⟨hl, he⟩ := List.getElem?_eq_some_iff.1 hi
    rw [← he]; simp
  have hmk : m + k ≤ 140737488355328 := Nat.le_trans (Nat.le_mul_of_pos_right _ hb) hroom
  have grow : ∀ (base : Option Addr) (cap : Nat), cap < m + k → (Builtin.firstCells sz m (.slice base m cap)).run P w.drew = .ok xs.toArray w.drew → xs.length = m * sz →
      ∃ v' w', (Builtin.append_ #[t, tx] ty #[.slice base m cap, x]).run P w = .ok v' w' ∧ Same w w' ∧ Holds w' (l.set i (sl el sz v' (m + k) (xs ++ ys))) := by
    intro base cap hg hold hlen
    have hfit : Builtin.nextslicecap (m + k) cap * ti.bytes ≤ 281474976710656 := by
      rw [h2]
      have := nextslicecap_le hg
      calc Builtin.nextslicecap (m + k) cap * bb ≤ 2 * (m + k) * bb := Nat.mul_le_mul_right _ this
        _ = 2 * ((m + k) * bb) := by rw [Nat.mul_assoc]
        _ ≤ _ := by omega
    have hr := run_append_grow_src (P := P) w t tx ty el ti z ht hti h3 base m cap xs (by rw [h1]; exact hold) x k ys (by rw [h1]; exact hs) hg (by omega) hfit
    refine ⟨_, _, hr, Same.drew_alloc w _, ?_⟩
    have hge : m + k ≤ grownCap w (m + k) cap el := grownCap_ge w (m + k) cap el
    have ha := (h.drew).alloc (((xs ++ ys).toArray ++ Builtin.zeroCells z.cells (grownCap w (m + k) cap el - (m + k)))) el
    have hb' := ha.bring (i + 1) (A := sl el sz v m xs) (by simpa using hi)
    have hc := hb'.tail
    -- the new row in the old one's place
    have hd : Holds (w.drew.alloc (.cells ((xs ++ ys).toArray ++ Builtin.zeroCells z.cells (grownCap w (m + k) cap el - (m + k))) el))
        (sl el sz (.slice (some ⟨w.heap.size, 0, none⟩) (m + k) (grownCap w (m + k) cap el)) (m + k) (xs ++ ys) :: l.eraseIdx i) := by
      refine Holds.map_at (B := sl el sz (.slice (some ⟨w.heap.size, 0, none⟩) (m + k) (grownCap w (m + k) cap el)) (m + k) (xs ++ ys)) hc 0 rfl fun h' a => .inr ⟨w.heap.size, [], (Builtin.zeroCells z.cells (grownCap w (m + k) cap el - (m + k))).toList, grownCap w (m + k) cap el, rfl, ?_, ?_, hge, ?_⟩
      · rw [List.length_append, hlen, hs.newsLen, Nat.add_mul]
      · rw [Array.length_toList]
        simp [Builtin.zeroCells, hzs]
      · simpa using a
    refine Sat.back i (A := sl el sz (.slice (some ⟨w.heap.size, 0, none⟩) (m + k) (grownCap w (m + k) cap el)) (m + k) (xs ++ ys)) (by simp [hl]) ?_
    rw [List.eraseIdx_set_eq]
    exact hd
  rcases h.sl_at i hi with ⟨rfl, rfl, rfl⟩ | ⟨b, pr, sp, cap, rfl, e2, e3, e4, hh⟩
  · by_cases hk : k = 0
    · subst hk
      have hys : ys = [] := by
        have := hs.newsLen
        simpa using this
      subst hys
      refine ⟨.slice none 0 0, w, ?_, Same.refl w, by rw [show 0 + 0 = 0 by rfl, List.append_nil, hset]; exact h⟩
      rcases hs.kind with ⟨e', hk⟩ | hk <;> simp [Builtin.append_, run_underlying ht, run_underlying hk, sizeOf, typeInfo, hti, hs.len, h1, hs.cells]
    · exact grow none 0 (by omega) (run_firstCells_none _ _ _ _ _) (by simp)
  · by_cases hroom' : m + k ≤ cap
    · have hyl := hs.newsLen
      have hsp : k * sz ≤ sp.length := by
        rw [e3]
        exact Nat.mul_le_mul_right _ (by omega)
      have hi' : (l.set i (cl b el (pr ++ xs ++ sp)))[i]? = some (cl b el (pr ++ xs ++ sp)) := by simp [hl]
      have hoff : pr.length + m * sz + ys.length ≤ (pr ++ xs ++ sp).length := by simp only [List.length_append]; omega
      have hr := run_append_room_src (P := P) w t tx ty el ti ht hti b pr.length m cap x k ys (by rw [h1]; exact hs) hroom'
        (fun j hj => by
          rw [h1, hh.cl_cell i hi' (List.getElem?_eq_getElem (by omega : pr.length + m * sz + j < (pr ++ xs ++ sp).length))]; rfl)
        (fun j hj => by rw [h1]; exact hh.cl_frozen i hi' (by omega))
      rw [h1] at hr
      refine ⟨_, _, hr, by rw [setCells_eq]; exact Same.setCells b ys _ w, ?_⟩
      rw [setCells_eq]
      have hset2 := Holds.setCells i ys (pr.length + m * sz) w _ _ hh hi' hoff
      rw [List.set_set] at hset2
      have e : (pr ++ xs ++ sp).take (pr.length + m * sz) ++ ys ++ (pr ++ xs ++ sp).drop (pr.length + m * sz + ys.length) = pr ++ (xs ++ ys) ++ sp.drop ys.length := by
        have e0 : (pr ++ xs).length = pr.length + m * sz := by rw [List.length_append, e2]
        rw [← e0, List.take_left, List.drop_append, List.drop_eq_nil_of_le (by omega), show (pr ++ xs).length + ys.length - (pr ++ xs).length = ys.length by omega]
        simp [List.append_assoc]
      rw [e] at hset2
      have := Holds.map_at (B := sl el sz (.slice (some ⟨b, pr.length, none⟩) (m + k) cap) (m + k) (xs ++ ys)) hset2 i (by simp [hl]) fun h' a =>
        .inr ⟨b, pr, sp.drop ys.length, cap, rfl, by rw [List.length_append, e2, hyl, Nat.add_mul], by rw [List.length_drop, e3, hyl, ← Nat.sub_mul]; congr 1; omega, hroom', a⟩
      rwa [List.set_set] at this
    · refine grow _ cap (by omega) ?_ e2
      refine run_firstCells_some _ _ _ _ _ _ _ e2 fun j u hj => ?_
      rw [add_mk]
      have hi' : (l.set i (cl b el (pr ++ xs ++ sp)))[i]? = some (cl b el (pr ++ xs ++ sp)) := by simp [hl]
      have := hh.drew.cl_cell i hi' (k := pr.length + j) (v := u) ?_
      · exact this
      · have hj' : j < xs.length := (List.getElem?_eq_some_iff.1 hj).1
        rw [List.append_assoc, List.getElem?_append_right (by omega), show pr.length + j - pr.length = j by omega, List.getElem?_append_left hj', hj]
theorem T_append {t tx el sz bb m k : Nat} {o1 o2 : Operand} {z v x : Value} {xs ys : List Value} (h1 : ev n e o1 = v) (h2 : ev n e o2 = x) (ht : P.underlying t = some (.slice el)) (hz : tin P el = some (sz, bb, some z)) (hzs : z.cells.size = sz) (hb : 0 < bb)
    (h : Holds w l) (i : Nat) (hi : l[i]? = some (sl el sz v m xs)) (hs : Src P sz tx x k ys w) (hroom : (m + k) * bb ≤ 140737488355328)
    (kk : ∀ v' w', Same w w' → Holds w' (l.set i (sl el sz v' (m + k) (xs ++ ys))) → K v' w') :
    Stp P n e ⟨d, .call { callee := .builtin .append, args := #[o1, o2], argTypes := #[t, tx] }, ty, pos, af, g⟩ w K := by
  obtain ⟨v', w', hr, hsame, hh⟩ := run_append_sl (ty := ty) ht hz hzs hb h i hi hs hroom
  refine .inl ⟨v', w', ?_, kk v' w' hsame hh⟩
  simp only [execOp, resolve, Sem.run_bind, Sem.run_pure, Result.andThen_ok, invoke, builtin]
  simp [h1, h2, hr]

/-! ### Strings and bytes -/
def bytesV (ns : List Int) : List Value := ns.map (Value.int .u8)
def strN (ns : List Int) : ByteArray := ns.foldl (fun r n => r.push (UInt8.ofNat n.toNat)) ByteArray.empty
theorem strN_data (ns : List Int) : (strN ns).data.toList = ns.map fun n => UInt8.ofNat n.toNat := by
  have : ∀ (ns : List Int) (s : ByteArray), (ns.foldl (fun r n => r.push (UInt8.ofNat n.toNat)) s).data.toList = s.data.toList ++ ns.map fun n => UInt8.ofNat n.toNat := by
    intro ns
    induction ns with
    | nil => intro s; simp
    | cons a ns ih => intro s; simp [ih]
  simpa [strN] using this ns ByteArray.empty
theorem T_s2b {s t el : Nat} {x : Operand} {u : ByteArray} {ud : TypeDesc} (hx : ev n e x = .string u) (hs : P.underlying s = some ud) (ht : P.underlying t = some (.slice el)) (he : P.underlying el = some (.int .u8)) (h : Holds w l)
    (k : ∀ b c w', Same w w' → u.size ≤ c → Holds w' (sl el 1 (.slice (some ⟨b, 0, none⟩) u.size c) u.size (byteCells u) :: l) → K (.slice (some ⟨b, 0, none⟩) u.size c) w') :
    Stp P n e ⟨d, .convert s t x, ty, pos, af, g⟩ w K := by
  refine .inl ⟨_, _, ?_, k w.heap.size (grownCap w u.size 0 el) (Lib.bytesWorld w el u) ⟨rfl, rfl, rfl⟩ (grownCap_ge _ _ _ _) ?_⟩
  · simp only [execOp]
    rw [hx]
    exact run_v _ (Lib.run_convert_string_bytes w s t el u hs ht he)
  · have hw : hp (Lib.bytesWorld w el u) = upb (hp w) w.heap.size (.cells (Lib.bytesCells w el u) el ((Lib.bytesCells w el u).size, (Lib.bytesCells w el u).size + 1)) :=
      hp_setBlock _ _ _ _ (Lib.bytesWorld_at_new w el u) (fun c hc => by
        rcases Nat.lt_or_ge c w.heap.size with x | x
        · exact Lib.bytesWorld_at_old w el u c x
        · have h1 : (Lib.bytesWorld w el u).heap.size ≤ c := by rw [Lib.bytesWorld_size]; omega
          rw [Array.getElem?_eq_none h1, Array.getElem?_eq_none x])
    unfold Holds
    rw [hw]
    refine Sat.upb_new h (by simp [hp]) ?_
    refine .inr ⟨w.heap.size, [], List.replicate (grownCap w u.size 0 el - u.size) (Value.int .u8 0), grownCap w u.size 0 el, rfl, by rw [byteCells_length, Nat.mul_one], by simp, grownCap_ge _ _ _ _, ?_⟩
    have hc : Lib.bytesCells w el u = ([] ++ byteCells u ++ List.replicate (grownCap w u.size 0 el - u.size) (Value.int .u8 0)).toArray := by
      apply Array.ext'
      simp [Lib.bytesCells, byteCells]
    refine ⟨((Lib.bytesCells w el u).size, (Lib.bytesCells w el u).size + 1), by rw [← hc]; simp, ?_⟩
    intro i hi ⟨h1, h2⟩
    rw [hc] at h1
    simp only [List.size_toArray] at h1
    omega
theorem x_b2s {s t el m c : Nat} {x : Operand} {b off : Nat} {ns : List Int} (hx : ev n e x = .slice (some ⟨b, off, none⟩) m c) (hs : P.underlying s = some (.slice el)) (he : P.underlying el = some (.int .u8)) (ht : P.underlying t = some .string)
    (hl : ns.length = m) (hc : ∀ j v, (bytesV ns)[j]? = some v → w.cell? ⟨b, off + j, none⟩ = some v) :
    (execOp (ev n e) ⟨d, .convert s t x, ty, pos, af, g⟩).run P w = .ok (.value (.string (strN ns))) w := by
  subst hl
  simp only [execOp]
  rw [hx]
  refine run_v _ ?_
  rw [run_convert_bytes_string w s t el _ _ _ hs he ht]
  have := run_loadCells_list (P := P) w ⟨b, off, none⟩ (bytesV ns) (fun j v hj => by rw [add_mk]; exact hc j v hj)
  rw [show (bytesV ns).length = ns.length by simp [bytesV]] at this
  exact run_bytesToString w _ _ _ ns this
theorem x_b2s_nil {s t el m c : Nat} {x : Operand} (hx : ev n e x = .slice none m c) (hs : P.underlying s = some (.slice el)) (he : P.underlying el = some (.int .u8)) (ht : P.underlying t = some .string) :
    (execOp (ev n e) ⟨d, .convert s t x, ty, pos, af, g⟩).run P w = .ok (.value (.string (strN []))) w := by
  simp only [execOp]
  rw [hx]
  refine run_v _ ?_
  rw [run_convert_bytes_string w s t el _ _ _ hs he ht]
  simp [Conv.bytesToString, strN]
end
end Go.Proofs.Ytlnihndjepjagaa.Gw
