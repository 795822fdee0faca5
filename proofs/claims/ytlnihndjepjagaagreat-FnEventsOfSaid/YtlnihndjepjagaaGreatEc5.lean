/- Words, and proved steps, on which the proof leans. -/
import Derived.Test.YtlnihndjepjagaaGreatEc4
set_option linter.unusedVariables false
set_option linter.unusedSimpArgs false
namespace Go.Proofs.YtlnihndjepjagaaGreat
open Go Go.RowKit Gw Tryz
open Go.Value renaming int → vI, bool → vB, slice → vS, pointer → vP, agg → vA, tuple → vT

theorem msetN {α : Type} [DecidableEq α] {m : List (α × Value)} {a : α} (h : ∀ x ∈ m, x.1 ≠ a) (v : Value) : mset m a v = m ++ [(a, v)] := by
  unfold mset
  rw [if_neg]
  rw [List.any_eq_true]
  rintro ⟨x, hx, he⟩
  exact h x hx (of_decide_eq_true he)
theorem mgetN {α : Type} [DecidableEq α] (m : List (α × Value)) (a : α) : ((∀ x ∈ m, x.1 ≠ a) ∧ mget m a = none) ∨ (∃ x ∈ m, x.1 = a ∧ mget m a = some x.2) := by
  unfold mget
  cases hf : m.find? (fun p => decide (p.1 = a)) with
  | none =>
    rw [List.find?_eq_none] at hf
    exact .inl ⟨fun x hx e => hf x hx (decide_eq_true e), rfl⟩
  | some x => exact .inr ⟨x, List.mem_of_find?_eq_some hf, of_decide_eq_true (List.find?_some (p := fun p : α × Value => decide (p.1 = a)) hf), rfl⟩
def idm (PM : List (Nat × GW)) : List (Int × Value) := PM.map fun p => (p.2.iD, pn p.1)
def ids (PM : List (Nat × GW)) : List Int := PM.map fun p => p.2.iD
theorem idm_keys (PM : List (Nat × GW)) : (idm PM).map (·.1) = ids PM := by unfold idm ids; rw [List.map_map]; rfl
theorem idm_get (PM : List (Nat × GW)) (a : Int) : ((∀ p ∈ PM, p.2.iD ≠ a) ∧ mget (idm PM) a = none) ∨ (∃ p ∈ PM, p.2.iD = a ∧ mget (idm PM) a = some (pn p.1)) := by
  rcases mgetN (idm PM) a with ⟨h1, h2⟩ | ⟨x, h1, h2, h3⟩
  · exact .inl ⟨fun p hp => h1 _ (List.mem_map.2 ⟨p, hp, rfl⟩), h2⟩
  · obtain ⟨p, hp, rfl⟩ := List.mem_map.1 h1
    exact .inr ⟨p, hp, h2, h3⟩
theorem idm_set {PM : List (Nat × GW)} {a : Nat} {x : GW} (h : ∀ p ∈ PM, p.2.iD ≠ x.iD) : mset (idm PM) x.iD (pn a) = idm (PM ++ [(a, x)]) := by
  rw [msetN]
  · unfold idm; rw [List.map_append]; rfl
  · intro y hy
    obtain ⟨p, hp, rfl⟩ := List.mem_map.1 hy
    exact h p hp
theorem ids_snoc {PM : List (Nat × GW)} {a : Nat} {x : GW} (hn : (ids PM).Nodup) (h : ∀ p ∈ PM, p.2.iD ≠ x.iD) : (ids (PM ++ [(a, x)])).Nodup := by
  unfold ids
  rw [List.map_append, List.nodup_append]
  refine ⟨hn, by simp, fun q hq c hc => ?_⟩
  obtain ⟨p, hp, rfl⟩ := List.mem_map.1 hq
  have : c = x.iD := by simpa using hc
  rw [this]; exact h p hp
/-! ### Who watches a key -/
def WProper (x : GW) : Prop := x.hasEnd = true → x.key.size ≠ 0 ∧ (x.end_.size = 0 ∨ Op.bytesLess x.key.toList x.end_.toList = true)
def seesB (x : GW) (k : ByteArray) : Bool :=
  if x.hasEnd = true then (if (x.end_.toList == (ByteArray.mk #[]).toList) = true then !(Op.bytesLess k.toList x.key.toList) else !(Op.bytesLess k.toList x.key.toList) && Op.bytesLess k.toList x.end_.toList) else k.toList == x.key.toList
theorem cb_le0 : ∀ a b : List UInt8, Lib.compareBytes a (b ++ [0]) < 0 ↔ Lib.compareBytes a b ≤ 0
  | [], [] => by decide
  | [], _ :: _ => by simp [Lib.compareBytes]
  | x :: xs, [] => by
    simp only [List.nil_append, Lib.compareBytes, UInt8.lt_iff_toNat_lt]
    have : ¬ x.toNat < (0 : UInt8).toNat := Nat.not_lt_zero _
    rw [if_neg this]
    split
    · simp
    · cases xs <;> simp [Lib.compareBytes]
  | x :: xs, y :: ys => by
    have ih := cb_le0 xs ys
    simp only [List.cons_append, Lib.compareBytes, UInt8.lt_iff_toNat_lt]
    split
    · simp
    · split
      · simp
      · exact ih
theorem app0g (s : ByteArray) : (s ++ ByteArray.mk #[0]).data.toList = s.data.toList ++ [0] := by simp
theorem not_less {a b : ByteArray} : (!(Op.bytesLess b.toList a.toList)) = true ↔ Lib.compareBytes a.data.toList b.data.toList ≤ 0 := by
  have h1 := @bl_lt b.data.toList a.data.toList
  have h2 := cb_flip a.data.toList b.data.toList
  rw [toList_data, toList_data, Bool.not_eq_true', Bool.eq_false_iff, ne_eq, h1]
  omega
theorem sees_meets {x : GW} {k : ByteArray} (hx : x.hasEnd = true) (hp : WProper x) (hk : k.size ≠ 0) :
    (acm x.key.data.toList (k ++ ByteArray.mk #[0]).data.toList < 0 ∧ acm k.data.toList x.end_.data.toList < 0) ↔ seesB x k = true := by
  obtain ⟨h1, h2⟩ := hp hx
  have n1 : x.key.data.toList ≠ [] := fun e => h1 (nil_size.1 e)
  have n2 : k.data.toList ≠ [] := fun e => hk (nil_size.1 e)
  unfold seesB
  rw [if_pos hx, app0g, acm_ne n1 (by simp), cb_le0]
  by_cases h0 : x.end_.size = 0
  · rw [if_pos (empty_iff.2 h0), nil_size.2 h0, acm_r n2, not_less]
    simp
  · rw [if_neg (fun e => h0 (empty_iff.1 e)), Bool.and_eq_true, not_less, acm_ne n2 (fun e => h0 (nil_size.1 e)), toList_data k, toList_data x.end_, bl_lt]
theorem hit_iff {R : HP} {W : TR} {S : List Nat} {M : List GW} (h : TWs R W S M) (hp : ∀ x ∈ M, WProper x) {k : ByteArray} (hk : k.size ≠ 0) :
    isect AO k.data.toList (k ++ ByteArray.mk #[0]).data.toList W = true ↔ ∃ x ∈ M, x.hasEnd = true ∧ seesB x k = true := by
  have n2 : k.data.toList ≠ [] := fun e => hk (nil_size.1 e)
  have hq : AO.cm k.data.toList (k ++ ByteArray.mk #[0]).data.toList < 0 := by
    show acm k.data.toList (k ++ ByteArray.mk #[0]).data.toList < 0
    rw [app0g, acm_ne n2 (by simp), cb_le0, cb_refl]
    decide
  have hP : Prp AO (ino W) := fun n hn => by
    obtain ⟨x, hx, e1, e2, e3⟩ := (h.d n.kb n.ke).1 ⟨n, hn, rfl, rfl⟩
    obtain ⟨h1, h2⟩ := hp x hx e1
    have n1 : x.key.data.toList ≠ [] := fun e => h1 (nil_size.1 e)
    show acm n.kb n.ke < 0
    rw [← e2, ← e3]
    by_cases h0 : x.end_.size = 0
    · rw [nil_size.2 h0, acm_r n1]; decide
    · rw [acm_ne n1 (fun e => h0 (nil_size.1 e))]
      have := h2.resolve_left h0
      rw [toList_data, toList_data] at this
      exact bl_lt.1 this
  rw [isect_eq hq h.s h.ok.2.1 hP, List.any_eq_true]
  constructor
  · rintro ⟨n, hn, hm⟩
    obtain ⟨x, hx, e1, e2, e3⟩ := (h.d n.kb n.ke).1 ⟨n, hn, rfl, rfl⟩
    have hm : acm n.kb (k ++ ByteArray.mk #[0]).data.toList < 0 ∧ acm k.data.toList n.ke < 0 := of_decide_eq_true hm
    rw [← e2, ← e3] at hm
    exact ⟨x, hx, e1, (sees_meets e1 (hp x hx) hk).1 hm⟩
  · rintro ⟨x, hx, e1, hs⟩
    obtain ⟨n, hn, e2, e3⟩ := (h.d _ _).2 ⟨x, hx, e1, rfl, rfl⟩
    have := (sees_meets e1 (hp x hx) hk).2 hs
    refine ⟨n, hn, decide_eq_true ?_⟩
    rw [e2, e3]
    exact this
theorem sees_key {x : GW} {k : ByteArray} (hx : x.hasEnd = false) : seesB x k = true ↔ x.key = k := by
  unfold seesB
  rw [if_neg (by rw [hx]; decide), beq_iff_eq, toList_data, toList_data]
  constructor
  · intro h; exact (ByteArray.ext (Array.toList_inj.1 h)).symm
  · rintro rfl; rfl
theorem any_sees {M : List GW} {k : ByteArray} : M.any (fun x => seesB x k) = true ↔ (∃ x ∈ M, x.hasEnd = false ∧ x.key = k) ∨ (∃ x ∈ M, x.hasEnd = true ∧ seesB x k = true) := by
  rw [List.any_eq_true]
  constructor
  · rintro ⟨x, hx, h⟩
    cases he : x.hasEnd with
    | false => exact .inl ⟨x, hx, he, (sees_key he).1 h⟩
    | true => exact .inr ⟨x, hx, he, h⟩
  · rintro (⟨x, hx, he, h⟩ | ⟨x, hx, he, h⟩)
    · exact ⟨x, hx, (sees_key he).2 h⟩
    · exact ⟨x, hx, h⟩
theorem kd_M {R : HP} {PM : List (Nat × GW)} {KM : List (ByteArray × Value)} {S : List Nat} {W : TR} (h : GSt R PM KM S W) (k : ByteArray) : (∃ y ∈ KM, y.1 = k) ↔ ∃ x ∈ gws PM, x.hasEnd = false ∧ x.key = k := by
  rw [h.kd]
  constructor
  · rintro ⟨p, hp, e⟩; exact ⟨p.2, List.mem_map.2 ⟨p, hp, rfl⟩, e⟩
  · rintro ⟨x, hx, e⟩; obtain ⟨p, hp, rfl⟩ := List.mem_map.1 hx; exact ⟨p, hp, e⟩

end Go.Proofs.YtlnihndjepjagaaGreat
set_option linter.unusedVariables false
set_option linter.unusedSimpArgs false
namespace Go.Proofs.YtlnihndjepjagaaGreat
open Go Go.RowKit Gw Tryz
open Go.Value renaming int → vI, bool → vB, slice → vS, pointer → vP, agg → vA, tuple → vT

set_option maxHeartbeats 1600000 in
theorem gzHas (R : HP) (zb kb tb sb wb ib : Nat) (cnt : Int) (PM : List (Nat × GW)) (KM : List (ByteArray × Value)) (S : List Nat) (W : TR) (q : Int) :
    Tri Tryz.prog 40 #[(vQ zb), (vI .i64 q)] R [cl zb 97 [(Value.map (some kb)), (Value.iface 183 (vQ tb)), (Value.map (some wb)), (Value.map (some ib))], mp (vI .i64) ib (idm PM)] (fun v__ post__ => (v__ = (vB true) ∧ post__ = [cl zb 97 [(Value.map (some kb)), (Value.iface 183 (vQ tb)), (Value.map (some wb)), (Value.map (some ib))], mp (vI .i64) ib (idm PM)] ∧ (∃ p ∈ PM, p.2.iD = q)) ∨ (v__ = (vB false) ∧ post__ = [cl zb 97 [(Value.map (some kb)), (Value.iface 183 (vQ tb)), (Value.map (some wb)), (Value.map (some ib))], mp (vI .i64) ib (idm PM)] ∧ (∀ p ∈ PM, p.2.iD ≠ q))) := by
 refine Tri.into (n := 12) (al := [(vQ zb), (vI .i64 q)]) func40 rfl ntmps40 rfl rfl fun w F H => ?_
 refine cR fun _ hK1_ => ?_
 refine sv (v := (vB false)) (x_assign rfl) ?_
 refine wn (hK1_ _ _ ?_)
 refine cR fun _ hK2_ => ?_
 refine sm (vQ zb) ?_
 refine sv (v := (vQ zb)) (by kernel_rfl) ?_
 refine sv (v := (vP (some ⟨zb, 3, none⟩))) (by kernel_rfl) ?_
 refine sv (v := (Value.map (some ib))) (x_load1 rfl underlying95 rfl ((Holds.rd H 1 rfl) 3 (Value.map (some ib)) rfl)) ?_
 refine sm (vI .i64 q) ?_
 rcases idm_get PM q with ⟨f3_n, f3_g⟩ | ⟨f3_p, f3_m, f3_k, f3_g⟩
 ·skip
  refine sv (v := (vP none)) (x_lookup (K := (vI .i64)) (a := q) (m := (idm PM)) rfl rfl (KeyKind.int underlying2) underlying95 z136 (Holds.mprd H 2 rfl) (by rw [f3_g]; rfl)) ?_
  refine sv (v := (vB false)) (by kernel_rfl) ?_
  refine sv (v := (vB false)) (x_assign rfl) ?_
  refine wn (hK2_ _ _ ?_)
  refine C_ret ?_
  refine R_any (v := (vB false)) (run_results1 rfl rfl) ?_
  exact ⟨_, _, rfl, (.inr ⟨rfl, rfl, (f3_n)⟩), (Same.refl w), H⟩
 ·skip
  refine sv (v := (vQ f3_p.1)) (x_lookup (K := (vI .i64)) (a := q) (m := (idm PM)) rfl rfl (KeyKind.int underlying2) underlying95 z136 (Holds.mprd H 2 rfl) (by rw [f3_g]; rfl)) ?_
  refine sv (v := (vB true)) (by kernel_rfl) ?_
  refine sv (v := (vB true)) (x_assign rfl) ?_
  refine wn (hK2_ _ _ ?_)
  refine C_ret ?_
  refine R_any (v := (vB true)) (run_results1 rfl rfl) ?_
  exact ⟨_, _, rfl, (.inl ⟨rfl, rfl, (⟨f3_p, f3_m, f3_k⟩)⟩), (Same.refl w), H⟩

set_option maxHeartbeats 1600000 in
theorem gzSize (R : HP) (zb kb tb sb wb ib : Nat) (cnt : Int) (PM : List (Nat × GW)) (KM : List (ByteArray × Value)) (S : List Nat) (W : TR) :
    Tri Tryz.prog 41 #[(vQ zb)] R [cl zb 97 [(Value.map (some kb)), (Value.iface 183 (vQ tb)), (Value.map (some wb)), (Value.map (some ib))], mp pn wb (aggm PM)] (fun v__ post__ => v__ = (vI .i64 (List.length PM : Int)) ∧ post__ = [cl zb 97 [(Value.map (some kb)), (Value.iface 183 (vQ tb)), (Value.map (some wb)), (Value.map (some ib))], mp pn wb (aggm PM)]) := by
 refine Tri.into (n := 7) (al := [(vQ zb)]) func41 rfl ntmps41 rfl rfl fun w F H => ?_
 refine cR fun _ hK1_ => ?_
 refine sv (v := (vI .i64 0)) (x_assign rfl) ?_
 refine wn (hK1_ _ _ ?_)
 refine cR fun _ hK2_ => ?_
 refine sm (vQ zb) ?_
 refine sv (v := (vQ zb)) (by kernel_rfl) ?_
 refine sv (v := (vQ zb)) (by kernel_rfl) ?_
 refine S_list (T_callW (al := [(vQ zb)]) rfl rfl cb64 (Calls.into (n := 8) func64 rfl ntmps64 rfl rfl ?_))
 refine cR fun _ hK3_ => ?_
 refine sv (v := (vI .i64 0)) (x_assign rfl) ?_
 refine wn (hK3_ _ _ ?_)
 refine cR fun _ hK4_ => ?_
 refine sm (vQ zb) ?_
 refine sv (v := (vQ zb)) (by kernel_rfl) ?_
 refine sv (v := (vP (some ⟨zb, 2, none⟩))) (by kernel_rfl) ?_
 refine sv (v := (Value.map (some wb))) (x_load1 rfl underlying91 rfl ((Holds.rd H 1 rfl) 2 (Value.map (some wb)) rfl)) ?_
 refine sv (v := (vI .i64 (List.length (aggm PM) : Int))) (x_lenMp (K := pn) rfl underlying91 (Holds.mprd H 2 rfl)) ?_
 refine sv (v := (vI .i64 (List.length (aggm PM) : Int))) (x_assign rfl) ?_
 refine wn (hK4_ _ _ ?_)
 refine C_ret ?_
 refine R_any (v := (vI .i64 (List.length (aggm PM) : Int))) (run_results1 rfl rfl) ⟨_, rfl, ?_⟩
 refine sv (v := (vI .i64 (List.length (aggm PM) : Int))) (x_assign rfl) ?_
 refine wn (hK2_ _ _ ?_)
 refine C_ret ?_
 refine R_any (v := (vI .i64 (List.length (aggm PM) : Int))) (run_results1 rfl rfl) ?_
 exact ⟨_, _, rfl, ⟨(congrArg (vI .i64) ((by rw [agg_len]) : (List.length (aggm PM) : Int) = (List.length PM : Int))), rfl⟩, (Same.refl w), H⟩

set_option maxHeartbeats 8000000 in
theorem gzAdd (R : HP) (zb kb tb sb wb ib : Nat) (cnt : Int) (PM : List (Nat × GW)) (KM : List (ByteArray × Value)) (S : List Nat) (W : TR) (ka ea0 : Option Addr) (kl kc el ec0 : Nat) (x : GW) (hkv : RS R 1 (vS ka kl kc) (List.length (ints x.key)) (bytesV (ints x.key))) (hev : EndAt R (vS ea0 el ec0) x) (hG : GSt R PM KM S W) (hcn : cnt = (List.length (ino W) : Int) ∧ (ino W).length ≤ List.length PM) (hpl : PM.length ≤ 100000) (hid : ∀ p ∈ PM, p.2.iD ≠ x.iD) (hnd : (ids PM).Nodup) :
    TriG Tryz.prog 42 #[(vQ zb), (vI .i64 x.iD), (vS ka kl kc), (vS ea0 el ec0), (vI .i64 x.minRev)] R [cl zb 97 [(Value.map (some kb)), (Value.iface 183 (vQ tb)), (Value.map (some wb)), (Value.map (some ib))], mp Value.string kb KM, setsP (List.map Prod.fst PM) S, cl tb 185 [(vQ (rt sb W)), (vI .i64 cnt), (vQ sb)], tr sb sb W, clf sb 182 [(Value.nilIface), (Value.nilIface), (Value.nilIface), (Value.nilIface), (vP none), (vP none), (vP none), (vI .i64 0)], mp pn wb (aggm PM), mp (vI .i64) ib (idm PM)] (fun R' v__ post__ => ∃ (a : Nat) (KM' : List (ByteArray × Value)) (S' : List Nat) (W' : TR) (cnt' : Int), v__ = (vT #[]) ∧ post__ = [cl zb 97 [(Value.map (some kb)), (Value.iface 183 (vQ tb)), (Value.map (some wb)), (Value.map (some ib))], mp Value.string kb KM', setsP (List.map Prod.fst (PM ++ [(a, x)])) S', cl tb 185 [(vQ (rt sb W')), (vI .i64 cnt'), (vQ sb)], tr sb sb W', clf sb 182 [(Value.nilIface), (Value.nilIface), (Value.nilIface), (Value.nilIface), (vP none), (vP none), (vP none), (vI .i64 0)], mp pn wb (aggm (PM ++ [(a, x)])), mp (vI .i64) ib (idm (PM ++ [(a, x)]))] ∧ (GSt R' (PM ++ [(a, x)]) KM' S' W') ∧ (cnt' = (List.length (ino W') : Int) ∧ (ino W').length ≤ List.length (PM ++ [(a, x)]))) := by
 refine TriG.into (n := 29) (al := [(vQ zb), (vI .i64 x.iD), (vS ka kl kc), (vS ea0 el ec0), (vI .i64 x.minRev)]) func42 rfl ntmps42 rfl rfl fun w F H => ?_
 refine cR fun _ hK1_ => ?_
 refine sm (vI .i64 x.iD) ?_
 refine sm (vS ka kl kc) ?_
 refine sm (vS ea0 el ec0) ?_
 refine sm (vI .i64 x.minRev) ?_
 refine S_list (T_new (obj := (.chan 1 #[] false 0 0 false)) (f := fun b__ => .chan (some b__)) (A := fun b__ => ob b__ (.chan 1 #[] false 0 0 false)) (by kernel_rfl) (fun l h => h.allocOb _) H ?_)
 intro b2_ w3_ S5_ H4_
 have S6_ := Same.trans (Same.refl w) S5_
 refine sv (v := (vA #[(vS ka kl kc), (vS ea0 el ec0), (vB false), (vB false), (vB false), (vI .i64 0), (vI .i64 x.minRev), (vI .i64 x.iD), (vS none 0 0), ((Value.chan (some b2_)))])) (by kernel_rfl) ?_
 refine S_list (T_boxf (v := (vA #[(vS ka kl kc), (vS ea0 el ec0), (vB false), (vB false), (vB false), (vI .i64 0), (vI .i64 x.minRev), (vI .i64 x.iD), (vS none 0 0), ((Value.chan (some b2_)))])) rfl H4_ ?_)
 intro b7_ w8_ S10_ H9_
 have S11_ := Same.trans S6_ S10_
 refine sv (v := (vQ b7_)) (x_assign rfl) ?_
 refine wn (hK1_ _ _ ?_)
 refine cR fun _ hK12_ => ?_
 refine sm (vQ zb) ?_
 refine sv (v := (vQ zb)) (by kernel_rfl) ?_
 refine sv (v := (vP (some ⟨zb, 3, none⟩))) (by kernel_rfl) ?_
 refine sv (v := (Value.map (some ib))) (x_load1 rfl underlying95 rfl ((Holds.rd H9_ 3 rfl) 3 (Value.map (some ib)) rfl)) ?_
 refine sm (vI .i64 x.iD) ?_
 refine sm (vQ b7_) ?_
 refine S_list0 (T_mapUpdate (K := (vI .i64)) (a := x.iD) rfl rfl rfl (KeyKind.int underlying2) underlying95 H9_ 10 rfl (by rw [idm_keys]; exact hnd) ?_)
 intro w13_ S15_ H14_
 have S16_ := Same.trans S11_ S15_
 refine wn (hK12_ _ _ ?_)
 refine C_reg ?_
 refine sm (vQ zb) ?_
 refine sv (v := (vQ zb)) (by kernel_rfl) ?_
 refine sv (v := (vQ zb)) (by kernel_rfl) ?_
 refine sm (vQ b7_) ?_
 have H17_ := ((Holds.bring H14_ 2 rfl) :)
 obtain ⟨R18_, hs19_, hn20_, hc21_, H22_⟩ := Holds.giftf H17_
 have H24_ := H22_
 have hw23_ : WNew R18_ b7_ x := ⟨_, _, ((Value.chan (some b2_))), hc21_, hkv.mono hs19_, hev.mono hs19_⟩
 have H32_ := ((Holds.bring (Holds.bring (Holds.bring (Holds.bring (Holds.bring (Holds.bring (Holds.bring (Holds.bring H24_ 8 rfl) 8 rfl) 8 rfl) 8 rfl) 8 rfl) 8 rfl) 8 rfl) 7 rfl) :)
 refine S_list (T_call (al := [(vQ zb), (vQ b7_)]) (pre := [cl zb 97 [(Value.map (some kb)), (Value.iface 183 (vQ tb)), (Value.map (some wb)), (Value.map (some ib))], mp Value.string kb KM, setsP (List.map Prod.fst PM) S, cl tb 185 [(vQ (rt sb W)), (vI .i64 cnt), (vQ sb)], tr sb sb W, clf sb 182 [(Value.nilIface), (Value.nilIface), (Value.nilIface), (Value.nilIface), (vP none), (vP none), (vP none), (vI .i64 0)], mp pn wb (aggm PM)]) rfl rfl cb65 (ggAdd R18_ zb kb tb sb wb ib cnt PM KM S W b7_ x (hw23_) ((fun hm => by obtain ⟨q, hq, e⟩ := List.mem_map.1 hm; obtain ⟨cs, T, h⟩ := (hG.w q hq).alv; rw [e, hn20_] at h; cases h)) ((hG.mono hs19_)) (by first | assumption | omega) (by first | assumption | omega)) H32_ ?_)
 rintro v25_ p36_ w33_ ⟨KM26_, S27_, W28_, cnt29_, rfl, rfl, he30_, he31_⟩ S35_ H34_
 have S37_ := Same.trans S16_ S35_
 refine wpList_nil ?_
 refine R_0 rfl ?_
 have H38_ : Holds w33_ (ro R18_ :: cl zb 97 [(Value.map (some kb)), (Value.iface 183 (vQ tb)), (Value.map (some wb)), (Value.map (some ib))] :: mp Value.string kb KM26_ :: setsP (List.map Prod.fst (PM ++ [(b7_, x)])) S27_ :: cl tb 185 [(vQ (rt sb W28_)), (vI .i64 cnt29_), (vQ sb)] :: tr sb sb W28_ :: clf sb 182 [(Value.nilIface), (Value.nilIface), (Value.nilIface), (Value.nilIface), (vP none), (vP none), (vP none), (vI .i64 0)] :: mp pn wb (aggm (PM ++ [(b7_, x)])) :: ob b2_ (.chan 1 #[] false 0 0 false) :: mp (vI .i64) ib (mset (idm PM) x.iD (vQ b7_)) :: F) := (H34_)
 have H39_ := H38_; rw [show mset (idm PM) x.iD (vQ b7_) = idm (PM ++ [(b7_, x)]) from idm_set hid] at H39_
 have H40_ := Holds.pkF H39_ [0, 0, 0, 0, 0, 0, 0, 0, 1] 1
 exact ⟨R18_, _, _, rfl, hs19_, ⟨b7_, KM26_, S27_, W28_, cnt29_, rfl, rfl, (he30_), (he31_)⟩, S37_, H40_⟩

set_option maxHeartbeats 8000000 in
theorem ggContains (R : HP) (zb kb tb sb wb ib : Nat) (cnt : Int) (PM : List (Nat × GW)) (KM : List (ByteArray × Value)) (S : List Nat) (W : TR) (k : ByteArray) (hG : GSt R PM KM S W) (hcn : cnt = (List.length (ino W) : Int) ∧ (ino W).length ≤ List.length PM) (hpl : PM.length ≤ 100000) (hk : k.size ≠ 0) (hks : k.size ≤ 1000000000000000) (hP : ∀ x ∈ gws PM, WProper x) :
    Tri Tryz.prog 67 #[(vQ zb), (Value.string k)] R [cl zb 97 [(Value.map (some kb)), (Value.iface 183 (vQ tb)), (Value.map (some wb)), (Value.map (some ib))], mp Value.string kb KM, setsP (List.map Prod.fst PM) S, cl tb 185 [(vQ (rt sb W)), (vI .i64 cnt), (vQ sb)], tr sb sb W, clf sb 182 [(Value.nilIface), (Value.nilIface), (Value.nilIface), (Value.nilIface), (vP none), (vP none), (vP none), (vI .i64 0)], mp pn wb (aggm PM)] (fun v__ post__ => v__ = (vB (List.any (gws PM) (fun x => seesB x k))) ∧ post__ = [cl zb 97 [(Value.map (some kb)), (Value.iface 183 (vQ tb)), (Value.map (some wb)), (Value.map (some ib))], mp Value.string kb KM, setsP (List.map Prod.fst PM) S, cl tb 185 [(vQ (rt sb W)), (vI .i64 cnt), (vQ sb)], tr sb sb W, clf sb 182 [(Value.nilIface), (Value.nilIface), (Value.nilIface), (Value.nilIface), (vP none), (vP none), (vP none), (vI .i64 0)], mp pn wb (aggm PM)]) := by
 refine Tri.into (n := 28) (al := [(vQ zb), (Value.string k)]) func67 rfl ntmps67 rfl rfl fun w F H => ?_
 refine cR fun _ hK1_ => ?_
 refine sv (v := (vB false)) (x_assign rfl) ?_
 refine wn (hK1_ _ _ ?_)
 refine cR fun _ hK2_ => ?_
 refine sm (vQ zb) ?_
 refine sv (v := (vQ zb)) (by kernel_rfl) ?_
 refine sv (v := (vQ zb)) (by kernel_rfl) ?_
 refine sv (v := (Value.map (some kb))) (x_load1 rfl underlying87 rfl ((Holds.rd H 1 rfl) 0 (Value.map (some kb)) rfl)) ?_
 refine sm (Value.string k) ?_
 rcases mget_or KM k with ⟨f3_n, f3_g⟩ | ⟨f3_y, f3_m, f3_k, f3_g⟩
 ·skip
  refine sv (v := (vT #[(Value.map none), (vB false)])) (x_lookup (K := Value.string) (a := k) (m := KM) rfl rfl (KeyKind.string underlying9) underlying87 z91 (Holds.mprd H 2 rfl) (by rw [f3_g]; rfl)) ?_
  refine sm (vT #[(Value.map none), (vB false)]) ?_
  refine sv (v := (Value.map none)) (by kernel_rfl) ?_
  refine sv (v := (vB false)) (by kernel_rfl) ?_
  refine sv (v := (Value.map none)) (x_assign rfl) ?_
  refine sv (v := (vB false)) (x_assign rfl) ?_
  refine wn (hK2_ _ _ ?_)
  refine C_seq (fun _ hK4_ => ?_)
  refine A_start (S := fun w => Rd zb [(Value.map (some kb)), (Value.iface 183 (vQ tb)), (Value.map (some wb)), (Value.map (some ib))] w ∧ MpRd Value.string kb KM w ∧ Rd tb [(vQ (rt sb W)), (vI .i64 cnt), (vQ sb)] w ∧ RtRd w (rt sb W) (rmx W) ∧ MpRd pn wb (aggm PM) w ∧ Sub R (hp w)) (N := 13) foll rfl rfl ?_
  have H5_ := Holds.drew_ H
  have hq6_ := And.intro (Holds.rd H5_ 1 rfl) (And.intro (Holds.mprd H5_ 2 rfl) (And.intro (Holds.rd H5_ 4 rfl) (And.intro (Holds.tr_rd H5_ 5 rfl 6 rfl) (And.intro (Holds.mprd H5_ 7 rfl) ((Holds.ro_at H5_ 0 rfl))))))
  refine A_tk 0 (v := (vB false)) rfl (by kernel_rfl) (fun w hS => x_move rfl) hq6_ ?_
  refine A_tk 1 (v := (vB false)) rfl (by kernel_rfl) (fun w hS => x_move rfl) hq6_ ?_
  refine A_tkY 2 (j := 1) (dj := 17) (b := false) (v := (vQ zb)) rfl (by kernel_rfl) rfl rfl rfl (fun w hS => x_move rfl) hq6_ ?_
  refine A_tkY 3 (j := 1) (dj := 17) (b := false) (v := (vQ zb)) rfl (by kernel_rfl) rfl rfl rfl (fun w hS => by kernel_rfl) hq6_ ?_
  refine A_tkY 4 (j := 1) (dj := 17) (b := false) (v := (vP (some ⟨zb, 1, none⟩))) rfl (by kernel_rfl) rfl rfl rfl (fun w hS => by kernel_rfl) hq6_ ?_
  refine A_tkY 5 (j := 1) (dj := 17) (b := false) (v := (Value.iface 183 (vQ tb))) rfl (by kernel_rfl) rfl rfl rfl (fun w hS => x_load1 rfl underlying89 rfl (hS.1 1 (Value.iface 183 (vQ tb)) rfl)) hq6_ ?_
  refine A_tkY 6 (j := 1) (dj := 17) (b := false) (v := (Value.string k)) rfl (by kernel_rfl) rfl rfl rfl (fun w hS => x_move rfl) hq6_ ?_
  refine A_tkY 8 (j := 1) (dj := 17) (b := false) (v := (Value.iface 183 (vQ tb))) rfl (by kernel_rfl) rfl rfl rfl (fun w hS => by kernel_rfl) hq6_ ?_
  refine A_tkY 9 (j := 1) (dj := 17) (b := false) (v := (Value.iface 183 (vQ tb))) rfl (by kernel_rfl) rfl rfl rfl (fun w hS => x_move rfl) hq6_ ?_
  refine A_ready (i := 7) (rs := []) (by kernel_rfl) ?_
  refine AllR.cons ?_ AllR.nil
  refine A_opYes (ls' := #[true, true, true, true, true, true, true, true, true, true, false, false, false]) (j := 1) (dj := 17) (b := false) rfl (by kernel_rfl) rfl rfl rfl (T_callW (al := [(Value.string k)]) rfl rfl cb86 (Calls.into (n := 7) func86 rfl ntmps86 rfl rfl ?_))
  refine cR fun _ hK7_ => ?_
  refine S_list (T_alloc z177 H5_ ?_)
  intro b8_ w9_ S11_ H10_
  have S12_ := Same.trans (Same.trans (Same.refl w) (Same.drew _)) S11_
  refine wn (hK7_ _ _ ?_)
  refine cR fun _ hK13_ => ?_
  refine sm (Value.string k) ?_
  refine sm (Value.string k) ?_
  refine sv (v := (Value.string (k ++ (ByteArray.mk #[0])))) (x_str rfl rfl (so_add (by have h1__ : (ByteArray.mk #[0]).size = 1 := rfl; omega)) (by decide)) ?_
  have H15_ := ((Holds.bring H10_ 1 rfl) :)
  refine S_list (T_call (al := [(Value.string k), (Value.string (k ++ (ByteArray.mk #[0])))]) (pre := []) rfl rfl cb83 (grNewIv R k (k ++ (ByteArray.mk #[0]))) H15_ ?_)
  rintro v14_ p19_ w16_ ⟨rfl, rfl⟩ S18_ H17_
  have S20_ := Same.trans S12_ S18_
  refine S_list0 (T_storeN (vs := [(Value.iface 222 (Value.string k)), (Value.iface 222 (Value.string (k ++ (ByteArray.mk #[0]))))]) rfl rfl z177 rfl (by simp [Value.oneCell']) H17_ 1 rfl (Nat.le_of_ble_eq_true (by rfl)) ?_)
  intro w21_ S23_ H22_
  have S24_ := Same.trans S20_ S23_
  refine wn (hK13_ _ _ ?_)
  refine C_ret ?_
  refine R_any (v := (vA #[(Value.iface 222 (Value.string k)), (Value.iface 222 (Value.string (k ++ (ByteArray.mk #[0]))))])) (run_results1 rfl ⟨_, rfl, load_resN underlying177 rfl z177 rfl (vs := [(Value.iface 222 (Value.string k)), (Value.iface 222 (Value.string (k ++ (ByteArray.mk #[0]))))]) (Holds.cl_cells H22_ 1 rfl 0 rfl)⟩) ⟨_, rfl, ?_⟩
  refine ⟨⟨Holds.rd H22_ 2 rfl, Holds.mprd H22_ 3 rfl, Holds.rd H22_ 5 rfl, Holds.tr_rd H22_ 6 rfl 7 rfl, Holds.mprd H22_ 8 rfl, (Holds.ro_at H22_ 0 rfl)⟩, ?_⟩
  refine A_ready (i := 10) (rs := []) (by kernel_rfl) ?_
  refine AllR.cons ?_ AllR.nil
  have H26_ := ((Holds.bring (Holds.bring (Holds.bring (Holds.bring H22_ 7 rfl) 7 rfl) 7 rfl) 3 rfl) :)
  refine A_opYes (ls' := #[true, true, true, true, true, true, true, true, true, true, true, false, false]) (j := 1) (dj := 17) (b := false) rfl (by kernel_rfl) rfl rfl rfl (T_invoke (al := [(vQ tb), (vA #[((Value.iface 222 (Value.string k))), ((Value.iface 222 (Value.string (k ++ (ByteArray.mk #[0])))))])]) (pre := [cl tb 185 [(vQ (rt sb W)), (vI .i64 cnt), (vQ sb)], tr sb sb W, clf sb 182 [(Value.nilIface), (Value.nilIface), (Value.nilIface), (Value.nilIface), (vP none), (vP none), (vP none), (vI .i64 0)]]) rfl (fun w => by kernel_rfl) (lcons rfl (lcons (congrArg (fun l => vA (List.toArray l)) (lcons (rfl : (Value.iface 222 (Value.string k)) = ((Value.iface 222 (Value.string k)))) (lcons (rfl : (Value.iface 222 (Value.string (k ++ (ByteArray.mk #[0])))) = ((Value.iface 222 (Value.string (k ++ (ByteArray.mk #[0])))))) rfl))) rfl)) cb158 (itIsect R (List UInt8) AO tb sb cnt [(Value.nilIface), (Value.nilIface), (Value.nilIface), (Value.nilIface), (vP none), (vP none), (vP none), (vI .i64 0)] W 222 222 (Value.string k) (Value.string (k ++ (ByteArray.mk #[0]))) k.data.toList ((k ++ ByteArray.mk #[0]).data.toList) (hG.t.ok.1) (av _) (av _)) H26_ ?_)
  rintro v25_ p30_ w27_ ⟨rfl, rfl⟩ S29_ H28_
  have S31_ := Same.trans S24_ S29_
  refine ⟨⟨Holds.rd H28_ 5 rfl, Holds.mprd H28_ 6 rfl, Holds.rd H28_ 1 rfl, Holds.tr_rd H28_ 2 rfl 3 rfl, Holds.mprd H28_ 8 rfl, (Holds.ro_at H28_ 0 rfl)⟩, ?_⟩
  have hq32_ := And.intro (Holds.rd H28_ 5 rfl) (And.intro (Holds.mprd H28_ 6 rfl) (And.intro (Holds.rd H28_ 1 rfl) (And.intro (Holds.tr_rd H28_ 2 rfl 3 rfl) (And.intro (Holds.mprd H28_ 8 rfl) ((Holds.ro_at H28_ 0 rfl))))))
  refine A_tk 11 (v := (vB (isect AO k.data.toList ((k ++ ByteArray.mk #[0]).data.toList) W))) rfl (by kernel_rfl) (fun w hS => (x_pickF rfl rfl)) hq32_ ?_
  refine A_tk 12 (v := (vB (isect AO k.data.toList ((k ++ ByteArray.mk #[0]).data.toList) W))) rfl (by kernel_rfl) (fun w hS => x_assign rfl) hq32_ ?_
  refine A_done (by kernel_rfl) ?_
  refine (X_then (hK4_ _ _ ?_))
  refine C_ret ?_
  refine R_any (v := (vB (isect AO k.data.toList ((k ++ ByteArray.mk #[0]).data.toList) W))) (run_results1 rfl rfl) ?_
  have H33_ := Holds.pkF H28_ [0, 4, 4, 4, 0, 0, 0, 1] 1
  exact ⟨_, _, rfl, ⟨(congrArg vB ((by rw [Bool.eq_iff_iff, any_sees, hit_iff hG.t hP hk]; exact ⟨.inr, fun h => h.elim (fun h => by obtain ⟨y, h1, h2⟩ := (kd_M hG k).2 h; exact absurd h2 (f3_n y h1)) id⟩) : (isect AO k.data.toList ((k ++ ByteArray.mk #[0]).data.toList) W) = (List.any (gws PM) (fun x => seesB x k)))), rfl⟩, S31_, H33_⟩
 ·skip
  obtain ⟨f3_b, f3_b_, f3_v⟩ := hG.k.v f3_y f3_m
  rw [f3_v] at f3_g
  refine sv (v := (vT #[(Value.map (some f3_b)), (vB true)])) (x_lookup (K := Value.string) (a := k) (m := KM) rfl rfl (KeyKind.string underlying9) underlying87 z91 (Holds.mprd H 2 rfl) (by rw [f3_g]; rfl)) ?_
  refine sm (vT #[(Value.map (some f3_b)), (vB true)]) ?_
  refine sv (v := (Value.map (some f3_b))) (by kernel_rfl) ?_
  refine sv (v := (vB true)) (by kernel_rfl) ?_
  refine sv (v := (Value.map (some f3_b))) (x_assign rfl) ?_
  refine sv (v := (vB true)) (x_assign rfl) ?_
  refine wn (hK2_ _ _ ?_)
  refine C_seq (fun _ hK34_ => ?_)
  refine A_start (S := fun w => Rd zb [(Value.map (some kb)), (Value.iface 183 (vQ tb)), (Value.map (some wb)), (Value.map (some ib))] w ∧ MpRd Value.string kb KM w ∧ Rd tb [(vQ (rt sb W)), (vI .i64 cnt), (vQ sb)] w ∧ RtRd w (rt sb W) (rmx W) ∧ (Rd sb [(Value.nilIface), (Value.nilIface), (Value.nilIface), (Value.nilIface), (vP none), (vP none), (vP none), (vI .i64 0)] w ∧ Blk w sb) ∧ MpRd pn wb (aggm PM) w ∧ Sub R (hp w)) (N := 13) foll rfl rfl ?_
  have H35_ := Holds.drew_ H
  have hq36_ := And.intro (Holds.rd H35_ 1 rfl) (And.intro (Holds.mprd H35_ 2 rfl) (And.intro (Holds.rd H35_ 4 rfl) (And.intro (Holds.tr_rd H35_ 5 rfl 6 rfl) (And.intro ((And.intro (Holds.rdf H35_ 6 rfl) (Holds.blk H35_ 6 rfl))) (And.intro (Holds.mprd H35_ 7 rfl) ((Holds.ro_at H35_ 0 rfl)))))))
  refine A_tk 0 (v := (vB true)) rfl (by kernel_rfl) (fun w hS => x_move rfl) hq36_ ?_
  refine A_tk 1 (v := (vB true)) rfl (by kernel_rfl) (fun w hS => x_move rfl) hq36_ ?_
  refine A_tkN 2 (j := 1) (dj := 17) (b := true) rfl (by kernel_rfl) rfl rfl rfl (by decide) hq36_ ?_
  refine A_tkN 3 (j := 1) (dj := 17) (b := true) rfl (by kernel_rfl) rfl rfl rfl (by decide) hq36_ ?_
  refine A_tkN 4 (j := 1) (dj := 17) (b := true) rfl (by kernel_rfl) rfl rfl rfl (by decide) hq36_ ?_
  refine A_tkN 5 (j := 1) (dj := 17) (b := true) rfl (by kernel_rfl) rfl rfl rfl (by decide) hq36_ ?_
  refine A_tkN 6 (j := 1) (dj := 17) (b := true) rfl (by kernel_rfl) rfl rfl rfl (by decide) hq36_ ?_
  refine A_tkN 7 (j := 1) (dj := 17) (b := true) rfl (by kernel_rfl) rfl rfl rfl (by decide) hq36_ ?_
  refine A_tkN 8 (j := 1) (dj := 17) (b := true) rfl (by kernel_rfl) rfl rfl rfl (by decide) hq36_ ?_
  refine A_tkN 9 (j := 1) (dj := 17) (b := true) rfl (by kernel_rfl) rfl rfl rfl (by decide) hq36_ ?_
  refine A_tkN 10 (j := 1) (dj := 17) (b := true) rfl (by kernel_rfl) rfl rfl rfl (by decide) hq36_ ?_
  refine A_tk 11 (v := (vB true)) rfl (by kernel_rfl) (fun w hS => (x_pickT rfl rfl)) hq36_ ?_
  refine A_tk 12 (v := (vB true)) rfl (by kernel_rfl) (fun w hS => x_assign rfl) hq36_ ?_
  refine A_done (by kernel_rfl) ?_
  refine (X_then (hK34_ _ _ ?_))
  refine C_ret ?_
  refine R_any (v := (vB true)) (run_results1 rfl rfl) ?_
  exact ⟨_, _, rfl, ⟨(congrArg vB ((any_sees.2 (.inl ((kd_M hG k).1 ⟨f3_y, f3_m, f3_k⟩))).symm : true = (List.any (gws PM) (fun x => seesB x k)))), rfl⟩, (Same.trans (Same.refl w) (Same.drew _)), H35_⟩

end Go.Proofs.YtlnihndjepjagaaGreat
set_option linter.unusedVariables false
set_option linter.unusedSimpArgs false
namespace Go.Proofs.YtlnihndjepjagaaGreat
open Go Go.RowKit Gw Tryz
open Go.Value renaming int → vI, bool → vB, slice → vS, pointer → vP, agg → vA, tuple → vT

end Go.Proofs.YtlnihndjepjagaaGreat
set_option linter.unusedVariables false
set_option linter.unusedSimpArgs false
namespace Go.Proofs.YtlnihndjepjagaaGreat
open Go Go.RowKit Gw Tryz
open Go.Value renaming int → vI, bool → vB, slice → vS, pointer → vP, agg → vA, tuple → vT

end Go.Proofs.YtlnihndjepjagaaGreat
set_option linter.unusedVariables false
set_option linter.unusedSimpArgs false
namespace Go.Proofs.YtlnihndjepjagaaGreat
open Go Go.RowKit Gw Tryz
open Go.Value renaming int → vI, bool → vB, slice → vS, pointer → vP, agg → vA, tuple → vT

structure GO where
  kind : Int
  w_ID : Int
  w_Key : ByteArray
  w_End : ByteArray
  w_HasEnd : Bool
  w_MinRev : Int
  key : ByteArray
  cur : Int
  compact : Int
  events : Value
def GO.cells (x : GO) : List Value := [(vI .i64 x.kind), (vI .i64 x.w_ID), (Value.string x.w_Key), (Value.string x.w_End), (vB x.w_HasEnd), (vI .i64 x.w_MinRev), (Value.string x.key), (vI .i64 x.cur), (vI .i64 x.compact), x.events]
theorem GO.len (x : GO) : x.cells.length = 10 := rfl

structure GA where
  oK : Bool
  n : Int
  iDs : Value
  told : Value
def GA.cells (x : GA) : List Value := [(vB x.oK), (vI .i64 x.n), x.iDs, x.told]
theorem GA.len (x : GA) : x.cells.length = 4 := rfl

def wOf (o : GO) : GW := ⟨o.w_ID, o.w_Key, o.w_End, o.w_HasEnd, o.w_MinRev⟩
theorem prop_bad {x : GW} (hP : WProper x) (h : x.hasEnd = true) : (x.key.toList == (ByteArray.mk #[]).toList) = false ∧ ((!(x.end_.toList == (ByteArray.mk #[]).toList)) = true → (Op.bytesLess x.end_.toList x.key.toList || x.end_.toList == x.key.toList) = false) := by
  obtain ⟨h1, h2⟩ := hP h
  refine ⟨Bool.eq_false_iff.2 fun e => h1 (empty_iff.1 e), fun h3 => ?_⟩
  have h4 : x.end_.size ≠ 0 := fun e => by rw [empty_iff.2 e] at h3; cases h3
  have h5 := h2.resolve_left h4
  rw [toList_data, toList_data] at h5 ⊢
  have h6 := bl_lt.1 h5
  have h7 := cb_flip x.key.data.toList x.end_.data.toList
  rw [Bool.or_eq_false_iff]
  refine ⟨Bool.eq_false_iff.2 fun e => ?_, ?_⟩
  · have := bl_lt.1 e; omega
  · rw [beq_eq_false_iff_ne]
    intro e
    rw [e, cb_refl] at h6
    omega

section
variable {P : Program} {n : Nat} {e : Env} {w : World} {l : List SP} {K' : Value → World → Prop} {d : Option Nat} {ty : TypeId} {pos : String} {af : Array Edge} {g : Option (Nat × Bool)}
theorem T_appendS {t tx el bb : Nat} {o1 o2 : Operand} {z : Value} {b : Nat} {u : ByteArray} (h1 : ev n e o1 = .slice (some ⟨b, 0, none⟩) 0 0) (h2 : ev n e o2 = .string u) (ht : P.underlying t = some (.slice el)) (hx : P.underlying tx = some .string) (hz : tin P el = some (1, bb, some z))
    (hzs : z.cells.size = 1) (hb : 0 < bb) (h : Holds w l) (i : Nat) (hi : l[i]? = some (sl el 1 (.slice (some ⟨b, 0, none⟩) 0 0) 0 [])) (hroom : u.size * bb ≤ 140737488355328)
    (kk : ∀ (ea : Addr) (cap : Nat) w', Same w w' → Holds w' (l.set i (sl el 1 (.slice (some ea) u.size cap) u.size (byteCells u))) → K' (.slice (some ea) u.size cap) w') :
    Stp P n e ⟨d, .call { callee := .builtin .append, args := #[o1, o2], argTypes := #[t, tx] }, ty, pos, af, g⟩ w K' := by
  have hs := Src.ofString (P := P) w hx u
  have hset : l.set i (sl el 1 (.slice (some ⟨b, 0, none⟩) 0 0) 0 []) = l := by
    obtain ⟨hl, he⟩ := List.getElem?_eq_some_iff.1 hi
    rw [← he]; simp
  have key : ∃ (ea : Addr) (cap : Nat) (w' : World), (Builtin.append_ #[t, tx] ty #[.slice (some ⟨b, 0, none⟩) 0 0, .string u]).run P w = .ok (.slice (some ea) u.size cap) w' ∧ Same w w' ∧ Holds w' (l.set i (sl el 1 (.slice (some ea) u.size cap) u.size (byteCells u))) := by
    by_cases h0 : u.size = 0
    · obtain ⟨ti, hti, e1, e2, e3⟩ := tin_info hz
      have hb0 : byteCells u = [] := by
        have := byteCells_length u
        rw [h0] at this
        exact List.eq_nil_of_length_eq_zero this
      have hr := run_append_room_src (P := P) w t tx ty el ti ht hti b 0 0 0 (.string u) u.size (byteCells u) (by rw [e1]; exact hs) (by omega) (fun j hj => by rw [hb0] at hj; cases hj) (fun j hj => by rw [hb0] at hj; cases hj)
      rw [hb0] at hr
      refine ⟨⟨b, 0, none⟩, 0, w, ?_, Same.refl w, ?_⟩
      · rw [hr, h0]; rfl
      · rw [h0, hb0, hset]; exact h
    · obtain ⟨v', w', hr, hsm, hh⟩ := run_append_sl (ty := ty) ht hz hzs hb h i hi hs (by simpa using hroom)
      rw [Nat.zero_add, List.nil_append] at hh
      have hl : i < l.length := (List.getElem?_eq_some_iff.1 hi).1
      rcases hh.sl_at i (by rw [List.getElem?_set_self hl]) with ⟨_, hm, _⟩ | ⟨b', pr, sp, cap, rfl, _⟩
      · exact absurd hm h0
      · exact ⟨_, cap, w', hr, hsm, hh⟩
  obtain ⟨ea, cap, w', hr, hsm, hh⟩ := key
  refine .inl ⟨_, w', ?_, kk ea cap w' hsm hh⟩
  simp only [execOp, resolve, Sem.run_bind, Sem.run_pure, Result.andThen_ok, invoke, builtin]
  simp [h1, h2, hr]
end


set_option maxHeartbeats 1600000 in
theorem gEnd (R : HP) (s : ByteArray) (h : Bool) (hz : s.size ≤ 2147483647) :
    TriG Tryz.prog 43 #[(Value.string s), (vB h)] R [] (fun R' v__ post__ => (v__ = (vS none 0 0) ∧ post__ = [] ∧ (h = false)) ∨ (∃ (ea : Addr) (em ec : Nat), v__ = (vS (some ea) em ec) ∧ post__ = [] ∧ (h = true) ∧ (RS R' 1 (vS (some ea) em ec) (List.length (ints s)) (bytesV (ints s))))) := by
 refine TriG.into (n := 10) (al := [(Value.string s), (vB h)]) func43 rfl ntmps43 rfl rfl fun w F H => ?_
 refine cR fun _ hK1_ => ?_
 refine sv (v := (vS none 0 0)) (x_assign rfl) ?_
 refine wn (hK1_ _ _ ?_)
 refine C_seq (fun _ hK2_ => ?_)
 refine cR fun _ hK3_ => ?_
 refine sm (vB h) ?_
 refine sv (v := (vB (!h))) (x_not rfl) ?_
 refine wn (hK3_ _ _ ?_)
 refine C_cond (b := !h) rfl (fun c4_t => ?_) (fun c4_f => ?_)
 ·skip
  refine cR fun _ hK5_ => ?_
  refine sv (v := (vS none 0 0)) (x_assign rfl) ?_
  refine wn (hK5_ _ _ ?_)
  refine C_ret (X_thenR ?_)
  refine R_any (v := (vS none 0 0)) (run_results1 rfl rfl) ?_
  exact ⟨R, _, _, rfl, (Sub.rfl' _), (.inl ⟨rfl, rfl, (by simpa using c4_t)⟩), (Same.refl w), H⟩
 ·skip
  refine C_skip (X_then (hK2_ _ _ ?_))
  refine cR fun _ hK6_ => ?_
  refine S_list (T_new (obj := .cells #[] 5) (f := fun b__ => .slice (some ⟨b__, 0, none⟩) 0 0) (A := fun b__ => cl b__ 5 []) (by kernel_rfl) (fun l h => h.alloc _ _) H ?_)
  intro b7_ w8_ S10_ H9_
  have S11_ := Same.trans (Same.refl w) S10_
  refine sm (Value.string s) ?_
  have H12_ : Holds w8_ (cl b7_ 5 ([] ++ [] ++ []) :: ro R :: F) := cast1 (P := fun (c__ : List Value) => Holds w8_ (cl b7_ 5 c__ :: ro R :: F)) (by kernel_rfl : [] = [] ++ [] ++ []) H9_
  have H13_ : Holds w8_ (sl 5 1 (vS (some ⟨b7_, 0, none⟩) 0 0) 0 [] :: ro R :: F) := Holds.to_sl H12_ 0 [] [] (xs := []) (m := 0) (cap := 0) (sz := 1) rfl (by kernel_rfl) (by kernel_rfl) (by omega)
  refine S_list (T_appendS (b := b7_) (u := s) rfl rfl underlying101 underlying9 z5 rfl (by decide) H13_ 0 rfl (by omega) ?_)
  intro ea14_ c15_ w16_ S18_ H17_
  have S19_ := Same.trans S11_ S18_
  refine sv (v := (vS (some ea14_) s.size c15_)) (x_assign rfl) ?_
  refine wn (hK6_ _ _ ?_)
  refine C_ret ?_
  refine R_any (v := (vS (some ea14_) s.size c15_)) (run_results1 rfl rfl) ?_
  have H20_ := Holds.resl H17_ 0 rfl (byteCells_bytesV s : byteCells s = bytesV (ints s)) ((ints_length s).symm : s.size = (List.length (ints s)))
  have H21_ := ((Holds.bring H20_ 1 rfl) :)
  obtain ⟨R22_, hs23_, ⟨R24_, ha25_, hs26_⟩, H27_⟩ := Holds.gift H21_
  have hr28_ : RS R22_ 1 (vS (some ea14_) s.size c15_) (List.length (ints s)) (bytesV (ints s)) := (sl_RS ha25_ (Sub.rfl' _)).mono hs26_
  exact ⟨R22_, _, _, rfl, hs23_, (.inr ⟨ea14_, s.size, c15_, rfl, rfl, (by simpa using c4_f), (hr28_)⟩), S19_, H27_⟩

set_option maxHeartbeats 16000000 in
theorem gdAdd (R : HP) (zb kb tb sb wb ib : Nat) (cnt : Int) (PM : List (Nat × GW)) (KM : List (ByteArray × Value)) (S : List Nat) (W : TR) (o : GO) (hG : GSt R PM KM S W) (hcn : cnt = (List.length (ino W) : Int) ∧ (ino W).length ≤ List.length PM) (hpl : PM.length ≤ 100000) (hnd : (ids PM).Nodup) (hk : o.kind = 1) (hP : WProper (wOf o)) (h5 : PM.length < 500) (hz : o.w_End.size ≤ 2147483647) :
    TriG Tryz.prog 25 #[(vQ zb), (vA #[(vI .i64 o.kind), (vI .i64 o.w_ID), (Value.string o.w_Key), (Value.string o.w_End), (vB o.w_HasEnd), (vI .i64 o.w_MinRev), (Value.string o.key), (vI .i64 o.cur), (vI .i64 o.compact), o.events])] R [cl zb 97 [(Value.map (some kb)), (Value.iface 183 (vQ tb)), (Value.map (some wb)), (Value.map (some ib))], mp Value.string kb KM, setsP (List.map Prod.fst PM) S, cl tb 185 [(vQ (rt sb W)), (vI .i64 cnt), (vQ sb)], tr sb sb W, clf sb 182 [(Value.nilIface), (Value.nilIface), (Value.nilIface), (Value.nilIface), (vP none), (vP none), (vP none), (vI .i64 0)], mp pn wb (aggm PM), mp (vI .i64) ib (idm PM)] (fun R' v__ post__ => (v__ = (vA #[(vB false), (vI .i64 0), (vS none 0 0), (vS none 0 0)]) ∧ post__ = [cl zb 97 [(Value.map (some kb)), (Value.iface 183 (vQ tb)), (Value.map (some wb)), (Value.map (some ib))], mp Value.string kb KM, setsP (List.map Prod.fst PM) S, cl tb 185 [(vQ (rt sb W)), (vI .i64 cnt), (vQ sb)], tr sb sb W, clf sb 182 [(Value.nilIface), (Value.nilIface), (Value.nilIface), (Value.nilIface), (vP none), (vP none), (vP none), (vI .i64 0)], mp pn wb (aggm PM), mp (vI .i64) ib (idm PM)] ∧ (∃ p ∈ PM, p.2.iD = o.w_ID)) ∨ (∃ (a : Nat) (KM' : List (ByteArray × Value)) (S' : List Nat) (W' : TR) (cnt' : Int), v__ = (vA #[(vB true), (vI .i64 0), (vS none 0 0), (vS none 0 0)]) ∧ post__ = [cl zb 97 [(Value.map (some kb)), (Value.iface 183 (vQ tb)), (Value.map (some wb)), (Value.map (some ib))], mp Value.string kb KM', setsP (List.map Prod.fst (PM ++ [(a, (wOf o))])) S', cl tb 185 [(vQ (rt sb W')), (vI .i64 cnt'), (vQ sb)], tr sb sb W', clf sb 182 [(Value.nilIface), (Value.nilIface), (Value.nilIface), (Value.nilIface), (vP none), (vP none), (vP none), (vI .i64 0)], mp pn wb (aggm (PM ++ [(a, (wOf o))])), mp (vI .i64) ib (idm (PM ++ [(a, (wOf o))]))] ∧ (∀ p ∈ PM, p.2.iD ≠ o.w_ID) ∧ (GSt R' (PM ++ [(a, (wOf o))]) KM' S' W') ∧ (cnt' = (List.length (ino W') : Int) ∧ (ino W').length ≤ List.length (PM ++ [(a, (wOf o))])))) := by
 refine TriG.into (n := 154) (al := [(vQ zb), (vA #[(vI .i64 o.kind), (vI .i64 o.w_ID), (Value.string o.w_Key), (Value.string o.w_End), (vB o.w_HasEnd), (vI .i64 o.w_MinRev), (Value.string o.key), (vI .i64 o.cur), (vI .i64 o.compact), o.events])]) func25 rfl ntmps25 rfl rfl fun w F H => ?_
 refine cR fun _ hK1_ => ?_
 refine S_list (T_box (v := (vA #[(vI .i64 o.kind), (vI .i64 o.w_ID), (Value.string o.w_Key), (Value.string o.w_End), (vB o.w_HasEnd), (vI .i64 o.w_MinRev), (Value.string o.key), (vI .i64 o.cur), (vI .i64 o.compact), o.events])) rfl H ?_)
 intro b2_ w3_ S5_ H4_
 have S6_ := Same.trans (Same.refl w) S5_
 refine S_list (T_alloc z42 H4_ ?_)
 intro b7_ w8_ S10_ H9_
 have S11_ := Same.trans S6_ S10_
 refine wn (hK1_ _ _ ?_)
 refine cR fun _ hK12_ => ?_
 refine sv (v := (vA #[(vB false), (vI .i64 0), (vS none 0 0), (vS none 0 0)])) (by kernel_rfl) ?_
 refine S_list (T_alloc z42 H9_ ?_)
 intro b13_ w14_ S16_ H15_
 have S17_ := Same.trans S11_ S16_
 refine S_list0 (T_storeN (vs := [(vB false), (vI .i64 0), (vS none 0 0), (vS none 0 0)]) rfl rfl z42 rfl (by simp [Value.oneCell']) H15_ 0 rfl (Nat.le_of_ble_eq_true (by rfl)) ?_)
 intro w18_ S20_ H19_
 have S21_ := Same.trans S17_ S20_
 refine wn (hK12_ _ _ ?_)
 refine C_seq (fun _ hK22_ => ?_)
 refine cR fun _ hK23_ => ?_
 refine sv (v := (vQ b2_)) (by kernel_rfl) ?_
 refine sv (v := (vI .i64 o.kind)) (x_load1 rfl underlying3 rfl ((Holds.rd H19_ 2 rfl) 0 (vI .i64 o.kind) rfl)) ?_
 refine wn (hK23_ _ _ ?_)
 refine C_block ?_
 refine cR fun _ hK24_ => ?_
 refine sv (v := (vB (decide (o.kind = 1)))) (x_bin rfl rfl rfl) ?_
 refine sv (v := (vB (decide (o.kind = 1)))) (x_assign rfl) ?_
 refine wn (hK24_ _ _ ?_)
 refine C_cond (b := decide (o.kind = 1)) rfl (fun c25_t => ?_) (fun c25_f => ?_)
 ·have c25_tp : o.kind = 1 := of_decide_eq_true c25_t
  refine C_seq (fun _ hK26_ => ?_)
  refine cR fun _ hK27_ => ?_
  refine sm (vQ zb) ?_
  refine sv (v := (vP (some ⟨b2_, 1, none⟩))) (by kernel_rfl) ?_
  refine sv (v := (vP (some ⟨b2_, 1, none⟩))) (by kernel_rfl) ?_
  refine sv (v := (vI .i64 o.w_ID)) (x_load1 rfl underlying2 rfl ((Holds.rd H19_ 2 rfl) 1 (vI .i64 o.w_ID) rfl)) ?_
  have H31_ := ((Holds.bring (Holds.bring (Holds.bring H19_ 11 rfl) 5 rfl) 5 rfl) :)
  refine S_list (T_call (al := [(vQ zb), (vI .i64 o.w_ID)]) (pre := [cl zb 97 [(Value.map (some kb)), (Value.iface 183 (vQ tb)), (Value.map (some wb)), (Value.map (some ib))], mp (vI .i64) ib (idm PM)]) rfl rfl cb40 (gzHas R zb kb tb sb wb ib cnt PM KM S W o.w_ID) H31_ ?_)
  rintro v28_ p35_ w32_ hq36_ S34_ H33_
  rcases hq36_ with ⟨rfl, rfl, he29_⟩ | ⟨rfl, rfl, he30_⟩
  ·skip
   have S37_ := Same.trans S21_ S34_
   refine sm (vB true) ?_
   refine S_no (j := 5) (dj := 18) (b := true) rfl rfl rfl (by decide) ?_
   refine S_no (j := 5) (dj := 18) (b := true) rfl rfl rfl (by decide) ?_
   refine S_no (j := 5) (dj := 18) (b := true) rfl rfl rfl (by decide) ?_
   refine S_list (T_pickT (v := (vB true)) rfl rfl ?_)
   refine sm (vB true) ?_
   refine S_no (j := 10) (dj := 23) (b := true) rfl rfl rfl (by decide) ?_
   refine S_no (j := 10) (dj := 23) (b := true) rfl rfl rfl (by decide) ?_
   refine S_no (j := 10) (dj := 23) (b := true) rfl rfl rfl (by decide) ?_
   refine S_no (j := 10) (dj := 23) (b := true) rfl rfl rfl (by decide) ?_
   refine S_noU (j := 14) (dj := 27) rfl rfl rfl ?_
   refine S_noU (j := 14) (dj := 27) rfl rfl rfl ?_
   refine S_noU (j := 14) (dj := 27) rfl rfl rfl ?_
   refine S_noU (j := 14) (dj := 27) rfl rfl rfl ?_
   refine S_noU (j := 14) (dj := 27) rfl rfl rfl ?_
   refine S_noU (j := 19) (dj := 32) rfl rfl rfl ?_
   refine S_noU (j := 19) (dj := 32) rfl rfl rfl ?_
   refine S_noU (j := 19) (dj := 32) rfl rfl rfl ?_
   refine S_noU (j := 19) (dj := 32) rfl rfl rfl ?_
   refine S_noU (j := 19) (dj := 32) rfl rfl rfl ?_
   refine S_noU (j := 24) (dj := 37) rfl rfl rfl ?_
   refine S_noU (j := 24) (dj := 37) rfl rfl rfl ?_
   refine S_noU (j := 24) (dj := 37) rfl rfl rfl ?_
   refine S_noU (j := 24) (dj := 37) rfl rfl rfl ?_
   refine S_noU (j := 24) (dj := 37) rfl rfl rfl ?_
   refine S_noU (j := 24) (dj := 37) rfl rfl rfl ?_
   refine S_noU (j := 24) (dj := 37) rfl rfl rfl ?_
   refine S_noU (j := 19) (dj := 32) rfl rfl rfl ?_
   refine S_noU (j := 14) (dj := 27) rfl rfl rfl ?_
   refine S_no (j := 10) (dj := 23) (b := true) rfl rfl rfl (by decide) ?_
   refine S_list (T_pickT (v := (vB true)) rfl rfl ?_)
   refine wn (hK27_ _ _ ?_)
   refine C_condT rfl ?_
   refine C_exit (X_thenX (X_blkHit ?_))
   refine (X_then (hK22_ _ _ ?_))
   refine cR fun _ hK39_ => ?_
   refine sv (v := (vA #[(vB false), (vI .i64 0), (vS none 0 0), (vS none 0 0)])) (x_loadN (vs := [(vB false), (vI .i64 0), (vS none 0 0), (vS none 0 0)]) rfl underlying42 rfl z42 rfl (Rd.cells (Holds.rd H33_ 3 rfl) 0 rfl)) ?_
   refine S_list0 (T_storeN (vs := [(vB false), (vI .i64 0), (vS none 0 0), (vS none 0 0)]) rfl rfl z42 rfl (by simp [Value.oneCell']) H33_ 4 rfl (Nat.le_of_ble_eq_true (by rfl)) ?_)
   intro w40_ S42_ H41_
   have S43_ := Same.trans S37_ S42_
   refine wn (hK39_ _ _ ?_)
   refine C_ret ?_
   refine R_any (v := (vA #[(vB false), (vI .i64 0), (vS none 0 0), (vS none 0 0)])) (run_results1 rfl ⟨_, rfl, load_resN underlying42 rfl z42 rfl (vs := [(vB false), (vI .i64 0), (vS none 0 0), (vS none 0 0)]) (Holds.cl_cells H41_ 4 rfl 0 rfl)⟩) ?_
   have H44_ := Holds.pkF H41_ [0, 0, 4, 4, 4, 4, 4, 4, 0] 3
   exact ⟨R, _, _, rfl, (Sub.rfl' _), (.inl ⟨rfl, rfl, (he29_)⟩), S43_, H44_⟩
  ·skip
   have S38_ := Same.trans S21_ S34_
   refine sm (vB false) ?_
   refine S_yes (j := 5) (dj := 18) (b := false) rfl rfl rfl (T_val (v := (vQ zb)) (x_move rfl) ?_)
   have H46_ := ((Holds.bring (Holds.bring (Holds.bring H33_ 11 rfl) 2 rfl) 2 rfl) :)
   refine S_yes (j := 5) (dj := 18) (b := false) rfl rfl rfl (T_call (al := [(vQ zb)]) (pre := [cl zb 97 [(Value.map (some kb)), (Value.iface 183 (vQ tb)), (Value.map (some wb)), (Value.map (some ib))], mp pn wb (aggm PM)]) rfl rfl cb41 (gzSize R zb kb tb sb wb ib cnt PM KM S W) H46_ ?_)
   rintro v45_ p50_ w47_ ⟨rfl, rfl⟩ S49_ H48_
   have S51_ := Same.trans S38_ S49_
   refine S_yes (j := 5) (dj := 18) (b := false) rfl rfl rfl (T_val (v := (vB (decide (500 ≤ (List.length PM : Int))))) (x_bin rfl rfl rfl) ?_)
   refine S_list (T_pickF (v := (vB (decide (500 ≤ (List.length PM : Int))))) rfl rfl ?_)
   refine sv (v := (vB (decide (500 ≤ (List.length PM : Int))))) (x_move rfl) ?_
   rcases Bool.eq_false_or_eq_true (decide (500 ≤ (List.length PM : Int))) with c52_t | c52_f
   ·have c52_tp : 500 ≤ (List.length PM : Int) := of_decide_eq_true c52_t
    omega
   ·have c52_fp : ¬ (500 ≤ (List.length PM : Int)) := of_decide_eq_false c52_f
    refine S_yes (j := 10) (dj := 23) (b := false) rfl rfl (congrArg vB c52_f) (T_val (v := (vP (some ⟨b2_, 1, none⟩))) (by kernel_rfl) ?_)
    refine S_yes (j := 10) (dj := 23) (b := false) rfl rfl (congrArg vB c52_f) (T_val (v := (vP (some ⟨b2_, 4, none⟩))) (by kernel_rfl) ?_)
    refine S_yes (j := 10) (dj := 23) (b := false) rfl rfl (congrArg vB c52_f) (T_val (v := (vB o.w_HasEnd)) (x_load1 rfl underlying4 rfl ((Holds.rd H48_ 6 rfl) 4 (vB o.w_HasEnd) rfl)) ?_)
    refine S_yes (j := 10) (dj := 23) (b := false) rfl rfl (congrArg vB c52_f) (T_val (v := (vB o.w_HasEnd)) (x_move rfl) ?_)
    rcases Bool.eq_false_or_eq_true (o.w_HasEnd) with c53_t | c53_f
    ·skip
     refine S_yes (j := 14) (dj := 27) (b := true) rfl rfl (congrArg vB c53_t) (T_val (v := (vP (some ⟨b2_, 1, none⟩))) (by kernel_rfl) ?_)
     refine S_yes (j := 14) (dj := 27) (b := true) rfl rfl (congrArg vB c53_t) (T_val (v := (vP (some ⟨b2_, 2, none⟩))) (by kernel_rfl) ?_)
     refine S_yes (j := 14) (dj := 27) (b := true) rfl rfl (congrArg vB c53_t) (T_val (v := (Value.string o.w_Key)) (x_load1 rfl underlying9 rfl ((Holds.rd H48_ 6 rfl) 2 (Value.string o.w_Key) rfl)) ?_)
     refine S_yes (j := 14) (dj := 27) (b := true) rfl rfl (congrArg vB c53_t) (T_val (v := (vB (o.w_Key.toList == (ByteArray.mk #[]).toList))) (x_str rfl rfl rfl (by decide)) ?_)
     refine S_yes (j := 14) (dj := 27) (b := true) rfl rfl (congrArg vB c53_t) (T_val (v := (vB (o.w_Key.toList == (ByteArray.mk #[]).toList))) (x_move rfl) ?_)
     rcases Bool.eq_false_or_eq_true (o.w_Key.toList == (ByteArray.mk #[]).toList) with c54_t | c54_f
     ·skip
      exact absurd ((prop_bad hP c53_t).1.symm.trans c54_t) (by decide)
     ·skip
      refine S_yes (j := 19) (dj := 32) (b := false) rfl rfl (congrArg vB c54_f) (T_val (v := (vP (some ⟨b2_, 1, none⟩))) (by kernel_rfl) ?_)
      refine S_yes (j := 19) (dj := 32) (b := false) rfl rfl (congrArg vB c54_f) (T_val (v := (vP (some ⟨b2_, 3, none⟩))) (by kernel_rfl) ?_)
      refine S_yes (j := 19) (dj := 32) (b := false) rfl rfl (congrArg vB c54_f) (T_val (v := (Value.string o.w_End)) (x_load1 rfl underlying9 rfl ((Holds.rd H48_ 6 rfl) 3 (Value.string o.w_End) rfl)) ?_)
      refine S_yes (j := 19) (dj := 32) (b := false) rfl rfl (congrArg vB c54_f) (T_val (v := (vB (!(o.w_End.toList == (ByteArray.mk #[]).toList)))) (x_str rfl rfl rfl (by decide)) ?_)
      refine S_yes (j := 19) (dj := 32) (b := false) rfl rfl (congrArg vB c54_f) (T_val (v := (vB (!(o.w_End.toList == (ByteArray.mk #[]).toList)))) (x_move rfl) ?_)
      rcases Bool.eq_false_or_eq_true (!(o.w_End.toList == (ByteArray.mk #[]).toList)) with c55_t | c55_f
      ·skip
       refine S_yes (j := 24) (dj := 37) (b := true) rfl rfl (congrArg vB c55_t) (T_val (v := (vP (some ⟨b2_, 1, none⟩))) (by kernel_rfl) ?_)
       refine S_yes (j := 24) (dj := 37) (b := true) rfl rfl (congrArg vB c55_t) (T_val (v := (vP (some ⟨b2_, 3, none⟩))) (by kernel_rfl) ?_)
       refine S_yes (j := 24) (dj := 37) (b := true) rfl rfl (congrArg vB c55_t) (T_val (v := (Value.string o.w_End)) (x_load1 rfl underlying9 rfl ((Holds.rd H48_ 6 rfl) 3 (Value.string o.w_End) rfl)) ?_)
       refine S_yes (j := 24) (dj := 37) (b := true) rfl rfl (congrArg vB c55_t) (T_val (v := (vP (some ⟨b2_, 1, none⟩))) (by kernel_rfl) ?_)
       refine S_yes (j := 24) (dj := 37) (b := true) rfl rfl (congrArg vB c55_t) (T_val (v := (vP (some ⟨b2_, 2, none⟩))) (by kernel_rfl) ?_)
       refine S_yes (j := 24) (dj := 37) (b := true) rfl rfl (congrArg vB c55_t) (T_val (v := (Value.string o.w_Key)) (x_load1 rfl underlying9 rfl ((Holds.rd H48_ 6 rfl) 2 (Value.string o.w_Key) rfl)) ?_)
       refine S_yes (j := 24) (dj := 37) (b := true) rfl rfl (congrArg vB c55_t) (T_val (v := (vB (Op.bytesLess o.w_End.toList o.w_Key.toList || o.w_End.toList == o.w_Key.toList))) (x_str rfl rfl rfl (by decide)) ?_)
       refine S_yes (j := 19) (dj := 32) (b := false) rfl rfl (congrArg vB c54_f) (T_pickT (v := (vB (Op.bytesLess o.w_End.toList o.w_Key.toList || o.w_End.toList == o.w_Key.toList))) (congrArg vB c55_t) rfl ?_)
       refine S_yes (j := 14) (dj := 27) (b := true) rfl rfl (congrArg vB c53_t) (T_pickF (v := (vB (Op.bytesLess o.w_End.toList o.w_Key.toList || o.w_End.toList == o.w_Key.toList))) (congrArg vB c54_f) rfl ?_)
       refine S_yes (j := 10) (dj := 23) (b := false) rfl rfl (congrArg vB c52_f) (T_pickT (v := (vB (Op.bytesLess o.w_End.toList o.w_Key.toList || o.w_End.toList == o.w_Key.toList))) (congrArg vB c53_t) rfl ?_)
       refine S_list (T_pickF (v := (vB (Op.bytesLess o.w_End.toList o.w_Key.toList || o.w_End.toList == o.w_Key.toList))) (congrArg vB c52_f) rfl ?_)
       refine wn (hK27_ _ _ ?_)
       refine C_cond (b := Op.bytesLess o.w_End.toList o.w_Key.toList || o.w_End.toList == o.w_Key.toList) rfl (fun c56_t => ?_) (fun c56_f => ?_)
       ·skip
        exact absurd (((prop_bad hP c53_t).2 c55_t).symm.trans c56_t) (by decide)
       ·skip
        refine C_skip (X_then (hK26_ _ _ ?_))
        refine C_seq (fun _ hK57_ => ?_)
        refine A_start (S := fun w => Rd zb [(Value.map (some kb)), (Value.iface 183 (vQ tb)), (Value.map (some wb)), (Value.map (some ib))] w ∧ Rd b13_ [(vB false), (vI .i64 0), (vS none 0 0), (vS none 0 0)] w ∧ Rd b7_ [(vB false), (vI .i64 0), (vS none 0 0), (vS none 0 0)] w ∧ Rd b2_ [(vI .i64 o.kind), (vI .i64 o.w_ID), (Value.string o.w_Key), (Value.string o.w_End), (vB o.w_HasEnd), (vI .i64 o.w_MinRev), (Value.string o.key), (vI .i64 o.cur), (vI .i64 o.compact), o.events] w ∧ (Rd sb [(Value.nilIface), (Value.nilIface), (Value.nilIface), (Value.nilIface), (vP none), (vP none), (vP none), (vI .i64 0)] w ∧ Blk w sb) ∧ Sub R (hp w)) (N := 19) foll rfl rfl ?_
        have H58_ := Holds.drew_ H48_
        have hq60_ := And.intro (Holds.rd H58_ 1 rfl) (And.intro (Holds.rd H58_ 4 rfl) (And.intro (Holds.rd H58_ 5 rfl) (And.intro (Holds.rd H58_ 6 rfl) (And.intro ((And.intro (Holds.rdf H58_ 11 rfl) (Holds.blk H58_ 11 rfl))) ((Holds.ro_at H58_ 0 rfl))))))
        refine A_tk 0 (v := (vQ zb)) rfl (by kernel_rfl) (fun w hS => x_move rfl) hq60_ ?_
        refine A_tk 1 (v := (vP (some ⟨b2_, 1, none⟩))) rfl (by kernel_rfl) (fun w hS => by kernel_rfl) hq60_ ?_
        refine A_tk 2 (v := (vP (some ⟨b2_, 1, none⟩))) rfl (by kernel_rfl) (fun w hS => by kernel_rfl) hq60_ ?_
        refine A_tk 3 (v := (vI .i64 o.w_ID)) rfl (by kernel_rfl) (fun w hS => x_load1 rfl underlying2 rfl (hS.2.2.2.1 1 (vI .i64 o.w_ID) rfl)) hq60_ ?_
        refine A_tk 4 (v := (vP (some ⟨b2_, 1, none⟩))) rfl (by kernel_rfl) (fun w hS => by kernel_rfl) hq60_ ?_
        refine A_tk 5 (v := (vP (some ⟨b2_, 2, none⟩))) rfl (by kernel_rfl) (fun w hS => by kernel_rfl) hq60_ ?_
        refine A_tk 6 (v := (Value.string o.w_Key)) rfl (by kernel_rfl) (fun w hS => x_load1 rfl underlying9 rfl (hS.2.2.2.1 2 (Value.string o.w_Key) rfl)) hq60_ ?_
        refine A_tk 8 (v := (vP (some ⟨b2_, 1, none⟩))) rfl (by kernel_rfl) (fun w hS => by kernel_rfl) hq60_ ?_
        refine A_tk 9 (v := (vP (some ⟨b2_, 3, none⟩))) rfl (by kernel_rfl) (fun w hS => by kernel_rfl) hq60_ ?_
        refine A_tk 10 (v := (Value.string o.w_End)) rfl (by kernel_rfl) (fun w hS => x_load1 rfl underlying9 rfl (hS.2.2.2.1 3 (Value.string o.w_End) rfl)) hq60_ ?_
        refine A_tk 11 (v := (vP (some ⟨b2_, 1, none⟩))) rfl (by kernel_rfl) (fun w hS => by kernel_rfl) hq60_ ?_
        refine A_tk 12 (v := (vP (some ⟨b2_, 4, none⟩))) rfl (by kernel_rfl) (fun w hS => by kernel_rfl) hq60_ ?_
        refine A_tk 13 (v := (vB o.w_HasEnd)) rfl (by kernel_rfl) (fun w hS => x_load1 rfl underlying4 rfl (hS.2.2.2.1 4 (vB o.w_HasEnd) rfl)) hq60_ ?_
        refine A_tk 15 (v := (vP (some ⟨b2_, 1, none⟩))) rfl (by kernel_rfl) (fun w hS => by kernel_rfl) hq60_ ?_
        refine A_tk 16 (v := (vP (some ⟨b2_, 5, none⟩))) rfl (by kernel_rfl) (fun w hS => by kernel_rfl) hq60_ ?_
        refine A_tk 17 (v := (vI .i64 o.w_MinRev)) rfl (by kernel_rfl) (fun w hS => x_load1 rfl underlying2 rfl (hS.2.2.2.1 5 (vI .i64 o.w_MinRev) rfl)) hq60_ ?_
        refine A_ready (i := 7) (rs := [14]) (by kernel_rfl) ?_
        refine AllR.cons ?_ ?_
        ·skip
         refine A_op (ls' := #[true, true, true, true, true, true, true, true, true, true, true, true, true, true, false, true, true, true, false]) rfl (by kernel_rfl) (T_s2b rfl underlying9 underlying101 underlying5 H58_ ?_)
         intro b61_ cp62_ w63_ S65_ hc66_ H64_
         have S67_ := Same.trans (Same.trans S51_ (Same.drew _)) S65_
         have H68_ := Holds.resl H64_ 0 rfl (byteCells_bytesV _ : byteCells o.w_Key = bytesV (ints o.w_Key)) rfl
         have H69_ := Holds.resl H68_ 0 rfl (rfl : bytesV (ints o.w_Key) = bytesV (ints o.w_Key)) ((ints_length _).symm : o.w_Key.size = (List.length (ints o.w_Key)))
         refine ⟨⟨Holds.rd H69_ 2 rfl, Holds.rd H69_ 5 rfl, Holds.rd H69_ 6 rfl, Holds.rd H69_ 7 rfl, (And.intro (Holds.rdf H69_ 12 rfl) (Holds.blk H69_ 12 rfl)), (Holds.ro_at H69_ 1 rfl)⟩, ?_⟩
         refine A_ready (i := 14) (rs := []) (by kernel_rfl) ?_
         refine AllR.cons ?_ AllR.nil
         have H79_ := ((Holds.bring H69_ 1 rfl) :)
         refine A_op (ls' := #[true, true, true, true, true, true, true, true, true, true, true, true, true, true, true, true, true, true, false]) rfl (by kernel_rfl) (T_callG (al := [(Value.string o.w_End), (vB o.w_HasEnd)]) (pre := []) rfl rfl cb43 (gEnd R o.w_End o.w_HasEnd (hz)) H79_ ?_)
         rintro R71_ v72_ p83_ w80_ hs70_ hq84_ S82_ H81_
         rcases hq84_ with ⟨rfl, rfl, he73_⟩ | ⟨ea74_, em75_, ec76_, rfl, rfl, he77_, he78_⟩
         ·skip
          have S85_ := Same.trans S67_ S82_
          refine ⟨⟨Holds.rd H81_ 2 rfl, Holds.rd H81_ 5 rfl, Holds.rd H81_ 6 rfl, Holds.rd H81_ 7 rfl, (And.intro (Holds.rdf H81_ 12 rfl) (Holds.blk H81_ 12 rfl)), (Sub.trans' hs70_ (Holds.ro_at H81_ 0 rfl))⟩, ?_⟩
          refine A_ready (i := 18) (rs := []) (by kernel_rfl) ?_
          refine AllR.cons ?_ AllR.nil
          obtain ⟨R87_, hs88_, ⟨R89_, ha90_, hs91_⟩, H92_⟩ := Holds.gift H81_
          have hz_R_R87_ := Sub.trans' hs70_ hs88_
          have hr93_ : RS R87_ 1 (vS (some ⟨b61_, 0, none⟩) o.w_Key.size cp62_) (List.length (ints o.w_Key)) (bytesV (ints o.w_Key)) := (sl_RS ha90_ (Sub.rfl' _)).mono hs91_
          have H104_ := ((Holds.bring (Holds.bring (Holds.bring (Holds.bring (Holds.bring (Holds.bring (Holds.bring (Holds.bring (Holds.bring H92_ 3 rfl) 3 rfl) 11 rfl) 11 rfl) 11 rfl) 11 rfl) 11 rfl) 8 rfl) 8 rfl) :)
          refine A_op (ls' := #[true, true, true, true, true, true, true, true, true, true, true, true, true, true, true, true, true, true, true]) rfl (by kernel_rfl) (T_callG (al := [(vQ zb), (vI .i64 ((wOf o).iD)), (vS (some ⟨b61_, 0, none⟩) o.w_Key.size cp62_), (vS none 0 0), (vI .i64 ((wOf o).minRev))]) (pre := [cl zb 97 [(Value.map (some kb)), (Value.iface 183 (vQ tb)), (Value.map (some wb)), (Value.map (some ib))], mp Value.string kb KM, setsP (List.map Prod.fst PM) S, cl tb 185 [(vQ (rt sb W)), (vI .i64 cnt), (vQ sb)], tr sb sb W, clf sb 182 [(Value.nilIface), (Value.nilIface), (Value.nilIface), (Value.nilIface), (vP none), (vP none), (vP none), (vI .i64 0)], mp pn wb (aggm PM), mp (vI .i64) ib (idm PM)]) rfl (lcons rfl (lcons (congrArg (vI .i64) ((by first | rfl | omega | (simp; done) | (simp; omega)) : o.w_ID = (wOf o).iD)) (lcons rfl (lcons rfl (lcons (congrArg (vI .i64) ((by first | rfl | omega | (simp; done) | (simp; omega)) : o.w_MinRev = (wOf o).minRev)) rfl))))) cb42 (gzAdd R87_ zb kb tb sb wb ib cnt PM KM S W (some ⟨b61_, 0, none⟩) none o.w_Key.size cp62_ 0 0 (wOf o) (RS.set_ hr93_ (by first | rfl | (simp [GW.cells, GO.cells, GA.cells]; done)) (by first | rfl | omega | (simp; done) | (simp; omega))) ((.inl ⟨he73_, rfl⟩)) ((hG.mono hz_R_R87_)) (hcn) (hpl) (he30_) (hnd)) H104_ ?_)
          rintro R95_ v96_ p108_ w105_ hs94_ ⟨a97_, KM98_, S99_, W100_, cnt101_, rfl, rfl, he102_, he103_⟩ S107_ H106_
          have S109_ := Same.trans S85_ S107_
          have hz_R_R95_ := Sub.trans' hz_R_R87_ hs94_
          have hz_R71__R95_ := Sub.trans' hs88_ hs94_
          refine ⟨⟨Holds.rd H106_ 1 rfl, Holds.rd H106_ 9 rfl, Holds.rd H106_ 10 rfl, Holds.rd H106_ 11 rfl, (And.intro (Holds.rdf H106_ 6 rfl) (Holds.blk H106_ 6 rfl)), (Sub.trans' hz_R_R95_ (Holds.ro_at H106_ 0 rfl))⟩, ?_⟩
          refine A_done (by kernel_rfl) ?_
          refine (X_then (hK57_ _ _ ?_))
          refine C_reg ?_
          refine sv (v := (vQ b13_)) (by kernel_rfl) ?_
          refine S_list0 (T_store1 (v := (vB true)) rfl rfl z4 rfl H106_ 9 rfl (Nat.le_of_ble_eq_true (by rfl)) ?_)
          intro w110_ S112_ H111_
          have S113_ := Same.trans S109_ S112_
          refine wpList_nil (X_blkN (X_then (hK22_ _ _ ?_)))
          refine cR fun _ hK114_ => ?_
          refine sv (v := (vA #[(vB true), (vI .i64 0), (vS none 0 0), (vS none 0 0)])) (x_loadN (vs := [(vB true), (vI .i64 0), (vS none 0 0), (vS none 0 0)]) rfl underlying42 rfl z42 rfl (Rd.cells (Holds.rd H111_ 9 rfl) 0 rfl)) ?_
          refine S_list0 (T_storeN (vs := [(vB true), (vI .i64 0), (vS none 0 0), (vS none 0 0)]) rfl rfl z42 rfl (by simp [Value.oneCell']) H111_ 10 rfl (Nat.le_of_ble_eq_true (by rfl)) ?_)
          intro w115_ S117_ H116_
          have S118_ := Same.trans S113_ S117_
          refine wn (hK114_ _ _ ?_)
          refine C_ret ?_
          refine R_any (v := (vA #[(vB true), (vI .i64 0), (vS none 0 0), (vS none 0 0)])) (run_results1 rfl ⟨_, rfl, load_resN underlying42 rfl z42 rfl (vs := [(vB true), (vI .i64 0), (vS none 0 0), (vS none 0 0)]) (Holds.cl_cells H116_ 10 rfl 0 rfl)⟩) ?_
          have H119_ := Holds.pkF H116_ [0, 0, 0, 0, 0, 0, 0, 0, 0] 3
          exact ⟨R95_, _, _, rfl, hz_R_R95_, (.inr ⟨a97_, KM98_, S99_, W100_, cnt101_, rfl, rfl, (he30_), (he102_), (he103_)⟩), S118_, H119_⟩
         ·skip
          have S86_ := Same.trans S67_ S82_
          refine ⟨⟨Holds.rd H81_ 2 rfl, Holds.rd H81_ 5 rfl, Holds.rd H81_ 6 rfl, Holds.rd H81_ 7 rfl, (And.intro (Holds.rdf H81_ 12 rfl) (Holds.blk H81_ 12 rfl)), (Sub.trans' hs70_ (Holds.ro_at H81_ 0 rfl))⟩, ?_⟩
          refine A_ready (i := 18) (rs := []) (by kernel_rfl) ?_
          refine AllR.cons ?_ AllR.nil
          obtain ⟨R120_, hs121_, ⟨R122_, ha123_, hs124_⟩, H125_⟩ := Holds.gift H81_
          have hz_R_R120_ := Sub.trans' hs70_ hs121_
          have hr126_ : RS R120_ 1 (vS (some ⟨b61_, 0, none⟩) o.w_Key.size cp62_) (List.length (ints o.w_Key)) (bytesV (ints o.w_Key)) := (sl_RS ha123_ (Sub.rfl' _)).mono hs124_
          have H137_ := ((Holds.bring (Holds.bring (Holds.bring (Holds.bring (Holds.bring (Holds.bring (Holds.bring (Holds.bring (Holds.bring H125_ 3 rfl) 3 rfl) 11 rfl) 11 rfl) 11 rfl) 11 rfl) 11 rfl) 8 rfl) 8 rfl) :)
          refine A_op (ls' := #[true, true, true, true, true, true, true, true, true, true, true, true, true, true, true, true, true, true, true]) rfl (by kernel_rfl) (T_callG (al := [(vQ zb), (vI .i64 ((wOf o).iD)), (vS (some ⟨b61_, 0, none⟩) o.w_Key.size cp62_), (vS (some ea74_) em75_ ec76_), (vI .i64 ((wOf o).minRev))]) (pre := [cl zb 97 [(Value.map (some kb)), (Value.iface 183 (vQ tb)), (Value.map (some wb)), (Value.map (some ib))], mp Value.string kb KM, setsP (List.map Prod.fst PM) S, cl tb 185 [(vQ (rt sb W)), (vI .i64 cnt), (vQ sb)], tr sb sb W, clf sb 182 [(Value.nilIface), (Value.nilIface), (Value.nilIface), (Value.nilIface), (vP none), (vP none), (vP none), (vI .i64 0)], mp pn wb (aggm PM), mp (vI .i64) ib (idm PM)]) rfl (lcons rfl (lcons (congrArg (vI .i64) ((by first | rfl | omega | (simp; done) | (simp; omega)) : o.w_ID = (wOf o).iD)) (lcons rfl (lcons rfl (lcons (congrArg (vI .i64) ((by first | rfl | omega | (simp; done) | (simp; omega)) : o.w_MinRev = (wOf o).minRev)) rfl))))) cb42 (gzAdd R120_ zb kb tb sb wb ib cnt PM KM S W (some ⟨b61_, 0, none⟩) (some ea74_) o.w_Key.size cp62_ em75_ ec76_ (wOf o) (RS.set_ hr126_ (by first | rfl | (simp [GW.cells, GO.cells, GA.cells]; done)) (by first | rfl | omega | (simp; done) | (simp; omega))) ((.inr ⟨he77_, _, _, _, rfl, (he78_.mono hs121_)⟩)) ((hG.mono hz_R_R120_)) (hcn) (hpl) (he30_) (hnd)) H137_ ?_)
          rintro R128_ v129_ p141_ w138_ hs127_ ⟨a130_, KM131_, S132_, W133_, cnt134_, rfl, rfl, he135_, he136_⟩ S140_ H139_
          have S142_ := Same.trans S86_ S140_
          have hz_R_R128_ := Sub.trans' hz_R_R120_ hs127_
          have hz_R71__R128_ := Sub.trans' hs121_ hs127_
          refine ⟨⟨Holds.rd H139_ 1 rfl, Holds.rd H139_ 9 rfl, Holds.rd H139_ 10 rfl, Holds.rd H139_ 11 rfl, (And.intro (Holds.rdf H139_ 6 rfl) (Holds.blk H139_ 6 rfl)), (Sub.trans' hz_R_R128_ (Holds.ro_at H139_ 0 rfl))⟩, ?_⟩
          refine A_done (by kernel_rfl) ?_
          refine (X_then (hK57_ _ _ ?_))
          refine C_reg ?_
          refine sv (v := (vQ b13_)) (by kernel_rfl) ?_
          refine S_list0 (T_store1 (v := (vB true)) rfl rfl z4 rfl H139_ 9 rfl (Nat.le_of_ble_eq_true (by rfl)) ?_)
          intro w143_ S145_ H144_
          have S146_ := Same.trans S142_ S145_
          refine wpList_nil (X_blkN (X_then (hK22_ _ _ ?_)))
          refine cR fun _ hK147_ => ?_
          refine sv (v := (vA #[(vB true), (vI .i64 0), (vS none 0 0), (vS none 0 0)])) (x_loadN (vs := [(vB true), (vI .i64 0), (vS none 0 0), (vS none 0 0)]) rfl underlying42 rfl z42 rfl (Rd.cells (Holds.rd H144_ 9 rfl) 0 rfl)) ?_
          refine S_list0 (T_storeN (vs := [(vB true), (vI .i64 0), (vS none 0 0), (vS none 0 0)]) rfl rfl z42 rfl (by simp [Value.oneCell']) H144_ 10 rfl (Nat.le_of_ble_eq_true (by rfl)) ?_)
          intro w148_ S150_ H149_
          have S151_ := Same.trans S146_ S150_
          refine wn (hK147_ _ _ ?_)
          refine C_ret ?_
          refine R_any (v := (vA #[(vB true), (vI .i64 0), (vS none 0 0), (vS none 0 0)])) (run_results1 rfl ⟨_, rfl, load_resN underlying42 rfl z42 rfl (vs := [(vB true), (vI .i64 0), (vS none 0 0), (vS none 0 0)]) (Holds.cl_cells H149_ 10 rfl 0 rfl)⟩) ?_
          have H152_ := Holds.pkF H149_ [0, 0, 0, 0, 0, 0, 0, 0, 0] 3
          exact ⟨R128_, _, _, rfl, hz_R_R128_, (.inr ⟨a130_, KM131_, S132_, W133_, cnt134_, rfl, rfl, (he30_), (he135_), (he136_)⟩), S151_, H152_⟩
        refine AllR.cons ?_ AllR.nil
        refine A_op (ls' := #[true, true, true, true, true, true, true, false, true, true, true, true, true, true, true, true, true, true, false]) rfl (by kernel_rfl) (T_callG (al := [(Value.string o.w_End), (vB o.w_HasEnd)]) (pre := []) rfl rfl cb43 (gEnd R o.w_End o.w_HasEnd (hz)) H58_ ?_)
        rintro R154_ v155_ p165_ w162_ hs153_ hq166_ S164_ H163_
        rcases hq166_ with ⟨rfl, rfl, he156_⟩ | ⟨ea157_, em158_, ec159_, rfl, rfl, he160_, he161_⟩
        ·skip
         have S167_ := Same.trans (Same.trans S51_ (Same.drew _)) S164_
         refine ⟨⟨Holds.rd H163_ 1 rfl, Holds.rd H163_ 4 rfl, Holds.rd H163_ 5 rfl, Holds.rd H163_ 6 rfl, (And.intro (Holds.rdf H163_ 11 rfl) (Holds.blk H163_ 11 rfl)), (Sub.trans' hs153_ (Holds.ro_at H163_ 0 rfl))⟩, ?_⟩
         refine A_ready (i := 7) (rs := []) (by kernel_rfl) ?_
         refine AllR.cons ?_ AllR.nil
         refine A_op (ls' := #[true, true, true, true, true, true, true, true, true, true, true, true, true, true, true, true, true, true, false]) rfl (by kernel_rfl) (T_s2b rfl underlying9 underlying101 underlying5 H163_ ?_)
         intro b169_ cp170_ w171_ S173_ hc174_ H172_
         have S175_ := Same.trans S167_ S173_
         have H176_ := Holds.resl H172_ 0 rfl (byteCells_bytesV _ : byteCells o.w_Key = bytesV (ints o.w_Key)) rfl
         have H177_ := Holds.resl H176_ 0 rfl (rfl : bytesV (ints o.w_Key) = bytesV (ints o.w_Key)) ((ints_length _).symm : o.w_Key.size = (List.length (ints o.w_Key)))
         refine ⟨⟨Holds.rd H177_ 2 rfl, Holds.rd H177_ 5 rfl, Holds.rd H177_ 6 rfl, Holds.rd H177_ 7 rfl, (And.intro (Holds.rdf H177_ 12 rfl) (Holds.blk H177_ 12 rfl)), (Sub.trans' hs153_ (Holds.ro_at H177_ 1 rfl))⟩, ?_⟩
         refine A_ready (i := 18) (rs := []) (by kernel_rfl) ?_
         refine AllR.cons ?_ AllR.nil
         have H178_ := ((Holds.bring H177_ 1 rfl) :)
         obtain ⟨R179_, hs180_, ⟨R181_, ha182_, hs183_⟩, H184_⟩ := Holds.gift H178_
         have hz_R_R179_ := Sub.trans' hs153_ hs180_
         have hr185_ : RS R179_ 1 (vS (some ⟨b169_, 0, none⟩) o.w_Key.size cp170_) (List.length (ints o.w_Key)) (bytesV (ints o.w_Key)) := (sl_RS ha182_ (Sub.rfl' _)).mono hs183_
         have H196_ := ((Holds.bring (Holds.bring (Holds.bring (Holds.bring (Holds.bring (Holds.bring (Holds.bring (Holds.bring (Holds.bring H184_ 3 rfl) 3 rfl) 11 rfl) 11 rfl) 11 rfl) 11 rfl) 11 rfl) 8 rfl) 8 rfl) :)
         refine A_op (ls' := #[true, true, true, true, true, true, true, true, true, true, true, true, true, true, true, true, true, true, true]) rfl (by kernel_rfl) (T_callG (al := [(vQ zb), (vI .i64 ((wOf o).iD)), (vS (some ⟨b169_, 0, none⟩) o.w_Key.size cp170_), (vS none 0 0), (vI .i64 ((wOf o).minRev))]) (pre := [cl zb 97 [(Value.map (some kb)), (Value.iface 183 (vQ tb)), (Value.map (some wb)), (Value.map (some ib))], mp Value.string kb KM, setsP (List.map Prod.fst PM) S, cl tb 185 [(vQ (rt sb W)), (vI .i64 cnt), (vQ sb)], tr sb sb W, clf sb 182 [(Value.nilIface), (Value.nilIface), (Value.nilIface), (Value.nilIface), (vP none), (vP none), (vP none), (vI .i64 0)], mp pn wb (aggm PM), mp (vI .i64) ib (idm PM)]) rfl (lcons rfl (lcons (congrArg (vI .i64) ((by first | rfl | omega | (simp; done) | (simp; omega)) : o.w_ID = (wOf o).iD)) (lcons rfl (lcons rfl (lcons (congrArg (vI .i64) ((by first | rfl | omega | (simp; done) | (simp; omega)) : o.w_MinRev = (wOf o).minRev)) rfl))))) cb42 (gzAdd R179_ zb kb tb sb wb ib cnt PM KM S W (some ⟨b169_, 0, none⟩) none o.w_Key.size cp170_ 0 0 (wOf o) (RS.set_ hr185_ (by first | rfl | (simp [GW.cells, GO.cells, GA.cells]; done)) (by first | rfl | omega | (simp; done) | (simp; omega))) ((.inl ⟨he156_, rfl⟩)) ((hG.mono hz_R_R179_)) (hcn) (hpl) (he30_) (hnd)) H196_ ?_)
         rintro R187_ v188_ p200_ w197_ hs186_ ⟨a189_, KM190_, S191_, W192_, cnt193_, rfl, rfl, he194_, he195_⟩ S199_ H198_
         have S201_ := Same.trans S175_ S199_
         have hz_R_R187_ := Sub.trans' hz_R_R179_ hs186_
         have hz_R154__R187_ := Sub.trans' hs180_ hs186_
         refine ⟨⟨Holds.rd H198_ 1 rfl, Holds.rd H198_ 9 rfl, Holds.rd H198_ 10 rfl, Holds.rd H198_ 11 rfl, (And.intro (Holds.rdf H198_ 6 rfl) (Holds.blk H198_ 6 rfl)), (Sub.trans' hz_R_R187_ (Holds.ro_at H198_ 0 rfl))⟩, ?_⟩
         refine A_done (by kernel_rfl) ?_
         refine (X_then (hK57_ _ _ ?_))
         refine C_reg ?_
         refine sv (v := (vQ b13_)) (by kernel_rfl) ?_
         refine S_list0 (T_store1 (v := (vB true)) rfl rfl z4 rfl H198_ 9 rfl (Nat.le_of_ble_eq_true (by rfl)) ?_)
         intro w202_ S204_ H203_
         have S205_ := Same.trans S201_ S204_
         refine wpList_nil (X_blkN (X_then (hK22_ _ _ ?_)))
         refine cR fun _ hK206_ => ?_
         refine sv (v := (vA #[(vB true), (vI .i64 0), (vS none 0 0), (vS none 0 0)])) (x_loadN (vs := [(vB true), (vI .i64 0), (vS none 0 0), (vS none 0 0)]) rfl underlying42 rfl z42 rfl (Rd.cells (Holds.rd H203_ 9 rfl) 0 rfl)) ?_
         refine S_list0 (T_storeN (vs := [(vB true), (vI .i64 0), (vS none 0 0), (vS none 0 0)]) rfl rfl z42 rfl (by simp [Value.oneCell']) H203_ 10 rfl (Nat.le_of_ble_eq_true (by rfl)) ?_)
         intro w207_ S209_ H208_
         have S210_ := Same.trans S205_ S209_
         refine wn (hK206_ _ _ ?_)
         refine C_ret ?_
         refine R_any (v := (vA #[(vB true), (vI .i64 0), (vS none 0 0), (vS none 0 0)])) (run_results1 rfl ⟨_, rfl, load_resN underlying42 rfl z42 rfl (vs := [(vB true), (vI .i64 0), (vS none 0 0), (vS none 0 0)]) (Holds.cl_cells H208_ 10 rfl 0 rfl)⟩) ?_
         have H211_ := Holds.pkF H208_ [0, 0, 0, 0, 0, 0, 0, 0, 0] 3
         exact ⟨R187_, _, _, rfl, hz_R_R187_, (.inr ⟨a189_, KM190_, S191_, W192_, cnt193_, rfl, rfl, (he30_), (he194_), (he195_)⟩), S210_, H211_⟩
        ·skip
         have S168_ := Same.trans (Same.trans S51_ (Same.drew _)) S164_
         refine ⟨⟨Holds.rd H163_ 1 rfl, Holds.rd H163_ 4 rfl, Holds.rd H163_ 5 rfl, Holds.rd H163_ 6 rfl, (And.intro (Holds.rdf H163_ 11 rfl) (Holds.blk H163_ 11 rfl)), (Sub.trans' hs153_ (Holds.ro_at H163_ 0 rfl))⟩, ?_⟩
         refine A_ready (i := 7) (rs := []) (by kernel_rfl) ?_
         refine AllR.cons ?_ AllR.nil
         refine A_op (ls' := #[true, true, true, true, true, true, true, true, true, true, true, true, true, true, true, true, true, true, false]) rfl (by kernel_rfl) (T_s2b rfl underlying9 underlying101 underlying5 H163_ ?_)
         intro b212_ cp213_ w214_ S216_ hc217_ H215_
         have S218_ := Same.trans S168_ S216_
         have H219_ := Holds.resl H215_ 0 rfl (byteCells_bytesV _ : byteCells o.w_Key = bytesV (ints o.w_Key)) rfl
         have H220_ := Holds.resl H219_ 0 rfl (rfl : bytesV (ints o.w_Key) = bytesV (ints o.w_Key)) ((ints_length _).symm : o.w_Key.size = (List.length (ints o.w_Key)))
         refine ⟨⟨Holds.rd H220_ 2 rfl, Holds.rd H220_ 5 rfl, Holds.rd H220_ 6 rfl, Holds.rd H220_ 7 rfl, (And.intro (Holds.rdf H220_ 12 rfl) (Holds.blk H220_ 12 rfl)), (Sub.trans' hs153_ (Holds.ro_at H220_ 1 rfl))⟩, ?_⟩
         refine A_ready (i := 18) (rs := []) (by kernel_rfl) ?_
         refine AllR.cons ?_ AllR.nil
         have H221_ := ((Holds.bring H220_ 1 rfl) :)
         obtain ⟨R222_, hs223_, ⟨R224_, ha225_, hs226_⟩, H227_⟩ := Holds.gift H221_
         have hz_R_R222_ := Sub.trans' hs153_ hs223_
         have hr228_ : RS R222_ 1 (vS (some ⟨b212_, 0, none⟩) o.w_Key.size cp213_) (List.length (ints o.w_Key)) (bytesV (ints o.w_Key)) := (sl_RS ha225_ (Sub.rfl' _)).mono hs226_
         have H239_ := ((Holds.bring (Holds.bring (Holds.bring (Holds.bring (Holds.bring (Holds.bring (Holds.bring (Holds.bring (Holds.bring H227_ 3 rfl) 3 rfl) 11 rfl) 11 rfl) 11 rfl) 11 rfl) 11 rfl) 8 rfl) 8 rfl) :)
         refine A_op (ls' := #[true, true, true, true, true, true, true, true, true, true, true, true, true, true, true, true, true, true, true]) rfl (by kernel_rfl) (T_callG (al := [(vQ zb), (vI .i64 ((wOf o).iD)), (vS (some ⟨b212_, 0, none⟩) o.w_Key.size cp213_), (vS (some ea157_) em158_ ec159_), (vI .i64 ((wOf o).minRev))]) (pre := [cl zb 97 [(Value.map (some kb)), (Value.iface 183 (vQ tb)), (Value.map (some wb)), (Value.map (some ib))], mp Value.string kb KM, setsP (List.map Prod.fst PM) S, cl tb 185 [(vQ (rt sb W)), (vI .i64 cnt), (vQ sb)], tr sb sb W, clf sb 182 [(Value.nilIface), (Value.nilIface), (Value.nilIface), (Value.nilIface), (vP none), (vP none), (vP none), (vI .i64 0)], mp pn wb (aggm PM), mp (vI .i64) ib (idm PM)]) rfl (lcons rfl (lcons (congrArg (vI .i64) ((by first | rfl | omega | (simp; done) | (simp; omega)) : o.w_ID = (wOf o).iD)) (lcons rfl (lcons rfl (lcons (congrArg (vI .i64) ((by first | rfl | omega | (simp; done) | (simp; omega)) : o.w_MinRev = (wOf o).minRev)) rfl))))) cb42 (gzAdd R222_ zb kb tb sb wb ib cnt PM KM S W (some ⟨b212_, 0, none⟩) (some ea157_) o.w_Key.size cp213_ em158_ ec159_ (wOf o) (RS.set_ hr228_ (by first | rfl | (simp [GW.cells, GO.cells, GA.cells]; done)) (by first | rfl | omega | (simp; done) | (simp; omega))) ((.inr ⟨he160_, _, _, _, rfl, (he161_.mono hs223_)⟩)) ((hG.mono hz_R_R222_)) (hcn) (hpl) (he30_) (hnd)) H239_ ?_)
         rintro R230_ v231_ p243_ w240_ hs229_ ⟨a232_, KM233_, S234_, W235_, cnt236_, rfl, rfl, he237_, he238_⟩ S242_ H241_
         have S244_ := Same.trans S218_ S242_
         have hz_R_R230_ := Sub.trans' hz_R_R222_ hs229_
         have hz_R154__R230_ := Sub.trans' hs223_ hs229_
         refine ⟨⟨Holds.rd H241_ 1 rfl, Holds.rd H241_ 9 rfl, Holds.rd H241_ 10 rfl, Holds.rd H241_ 11 rfl, (And.intro (Holds.rdf H241_ 6 rfl) (Holds.blk H241_ 6 rfl)), (Sub.trans' hz_R_R230_ (Holds.ro_at H241_ 0 rfl))⟩, ?_⟩
         refine A_done (by kernel_rfl) ?_
         refine (X_then (hK57_ _ _ ?_))
         refine C_reg ?_
         refine sv (v := (vQ b13_)) (by kernel_rfl) ?_
         refine S_list0 (T_store1 (v := (vB true)) rfl rfl z4 rfl H241_ 9 rfl (Nat.le_of_ble_eq_true (by rfl)) ?_)
         intro w245_ S247_ H246_
         have S248_ := Same.trans S244_ S247_
         refine wpList_nil (X_blkN (X_then (hK22_ _ _ ?_)))
         refine cR fun _ hK249_ => ?_
         refine sv (v := (vA #[(vB true), (vI .i64 0), (vS none 0 0), (vS none 0 0)])) (x_loadN (vs := [(vB true), (vI .i64 0), (vS none 0 0), (vS none 0 0)]) rfl underlying42 rfl z42 rfl (Rd.cells (Holds.rd H246_ 9 rfl) 0 rfl)) ?_
         refine S_list0 (T_storeN (vs := [(vB true), (vI .i64 0), (vS none 0 0), (vS none 0 0)]) rfl rfl z42 rfl (by simp [Value.oneCell']) H246_ 10 rfl (Nat.le_of_ble_eq_true (by rfl)) ?_)
         intro w250_ S252_ H251_
         have S253_ := Same.trans S248_ S252_
         refine wn (hK249_ _ _ ?_)
         refine C_ret ?_
         refine R_any (v := (vA #[(vB true), (vI .i64 0), (vS none 0 0), (vS none 0 0)])) (run_results1 rfl ⟨_, rfl, load_resN underlying42 rfl z42 rfl (vs := [(vB true), (vI .i64 0), (vS none 0 0), (vS none 0 0)]) (Holds.cl_cells H251_ 10 rfl 0 rfl)⟩) ?_
         have H254_ := Holds.pkF H251_ [0, 0, 0, 0, 0, 0, 0, 0, 0] 3
         exact ⟨R230_, _, _, rfl, hz_R_R230_, (.inr ⟨a232_, KM233_, S234_, W235_, cnt236_, rfl, rfl, (he30_), (he237_), (he238_)⟩), S253_, H254_⟩
      ·skip
       refine S_no (j := 24) (dj := 37) (b := false) rfl rfl (congrArg vB c55_f) (by decide) ?_
       refine S_no (j := 24) (dj := 37) (b := false) rfl rfl (congrArg vB c55_f) (by decide) ?_
       refine S_no (j := 24) (dj := 37) (b := false) rfl rfl (congrArg vB c55_f) (by decide) ?_
       refine S_no (j := 24) (dj := 37) (b := false) rfl rfl (congrArg vB c55_f) (by decide) ?_
       refine S_no (j := 24) (dj := 37) (b := false) rfl rfl (congrArg vB c55_f) (by decide) ?_
       refine S_no (j := 24) (dj := 37) (b := false) rfl rfl (congrArg vB c55_f) (by decide) ?_
       refine S_no (j := 24) (dj := 37) (b := false) rfl rfl (congrArg vB c55_f) (by decide) ?_
       refine S_yes (j := 19) (dj := 32) (b := false) rfl rfl (congrArg vB c54_f) (T_pickF (v := (vB false)) (congrArg vB c55_f) rfl ?_)
       refine S_yes (j := 14) (dj := 27) (b := true) rfl rfl (congrArg vB c53_t) (T_pickF (v := (vB false)) (congrArg vB c54_f) rfl ?_)
       refine S_yes (j := 10) (dj := 23) (b := false) rfl rfl (congrArg vB c52_f) (T_pickT (v := (vB false)) (congrArg vB c53_t) rfl ?_)
       refine S_list (T_pickF (v := (vB false)) (congrArg vB c52_f) rfl ?_)
       refine wn (hK27_ _ _ ?_)
       refine C_condF rfl ?_
       refine C_skip (X_then (hK26_ _ _ ?_))
       refine C_seq (fun _ hK255_ => ?_)
       refine A_start (S := fun w => Rd zb [(Value.map (some kb)), (Value.iface 183 (vQ tb)), (Value.map (some wb)), (Value.map (some ib))] w ∧ Rd b13_ [(vB false), (vI .i64 0), (vS none 0 0), (vS none 0 0)] w ∧ Rd b7_ [(vB false), (vI .i64 0), (vS none 0 0), (vS none 0 0)] w ∧ Rd b2_ [(vI .i64 o.kind), (vI .i64 o.w_ID), (Value.string o.w_Key), (Value.string o.w_End), (vB o.w_HasEnd), (vI .i64 o.w_MinRev), (Value.string o.key), (vI .i64 o.cur), (vI .i64 o.compact), o.events] w ∧ (Rd sb [(Value.nilIface), (Value.nilIface), (Value.nilIface), (Value.nilIface), (vP none), (vP none), (vP none), (vI .i64 0)] w ∧ Blk w sb) ∧ Sub R (hp w)) (N := 19) foll rfl rfl ?_
       have H256_ := Holds.drew_ H48_
       have hq258_ := And.intro (Holds.rd H256_ 1 rfl) (And.intro (Holds.rd H256_ 4 rfl) (And.intro (Holds.rd H256_ 5 rfl) (And.intro (Holds.rd H256_ 6 rfl) (And.intro ((And.intro (Holds.rdf H256_ 11 rfl) (Holds.blk H256_ 11 rfl))) ((Holds.ro_at H256_ 0 rfl))))))
       refine A_tk 0 (v := (vQ zb)) rfl (by kernel_rfl) (fun w hS => x_move rfl) hq258_ ?_
       refine A_tk 1 (v := (vP (some ⟨b2_, 1, none⟩))) rfl (by kernel_rfl) (fun w hS => by kernel_rfl) hq258_ ?_
       refine A_tk 2 (v := (vP (some ⟨b2_, 1, none⟩))) rfl (by kernel_rfl) (fun w hS => by kernel_rfl) hq258_ ?_
       refine A_tk 3 (v := (vI .i64 o.w_ID)) rfl (by kernel_rfl) (fun w hS => x_load1 rfl underlying2 rfl (hS.2.2.2.1 1 (vI .i64 o.w_ID) rfl)) hq258_ ?_
       refine A_tk 4 (v := (vP (some ⟨b2_, 1, none⟩))) rfl (by kernel_rfl) (fun w hS => by kernel_rfl) hq258_ ?_
       refine A_tk 5 (v := (vP (some ⟨b2_, 2, none⟩))) rfl (by kernel_rfl) (fun w hS => by kernel_rfl) hq258_ ?_
       refine A_tk 6 (v := (Value.string o.w_Key)) rfl (by kernel_rfl) (fun w hS => x_load1 rfl underlying9 rfl (hS.2.2.2.1 2 (Value.string o.w_Key) rfl)) hq258_ ?_
       refine A_tk 8 (v := (vP (some ⟨b2_, 1, none⟩))) rfl (by kernel_rfl) (fun w hS => by kernel_rfl) hq258_ ?_
       refine A_tk 9 (v := (vP (some ⟨b2_, 3, none⟩))) rfl (by kernel_rfl) (fun w hS => by kernel_rfl) hq258_ ?_
       refine A_tk 10 (v := (Value.string o.w_End)) rfl (by kernel_rfl) (fun w hS => x_load1 rfl underlying9 rfl (hS.2.2.2.1 3 (Value.string o.w_End) rfl)) hq258_ ?_
       refine A_tk 11 (v := (vP (some ⟨b2_, 1, none⟩))) rfl (by kernel_rfl) (fun w hS => by kernel_rfl) hq258_ ?_
       refine A_tk 12 (v := (vP (some ⟨b2_, 4, none⟩))) rfl (by kernel_rfl) (fun w hS => by kernel_rfl) hq258_ ?_
       refine A_tk 13 (v := (vB o.w_HasEnd)) rfl (by kernel_rfl) (fun w hS => x_load1 rfl underlying4 rfl (hS.2.2.2.1 4 (vB o.w_HasEnd) rfl)) hq258_ ?_
       refine A_tk 15 (v := (vP (some ⟨b2_, 1, none⟩))) rfl (by kernel_rfl) (fun w hS => by kernel_rfl) hq258_ ?_
       refine A_tk 16 (v := (vP (some ⟨b2_, 5, none⟩))) rfl (by kernel_rfl) (fun w hS => by kernel_rfl) hq258_ ?_
       refine A_tk 17 (v := (vI .i64 o.w_MinRev)) rfl (by kernel_rfl) (fun w hS => x_load1 rfl underlying2 rfl (hS.2.2.2.1 5 (vI .i64 o.w_MinRev) rfl)) hq258_ ?_
       refine A_ready (i := 7) (rs := [14]) (by kernel_rfl) ?_
       refine AllR.cons ?_ ?_
       ·skip
        refine A_op (ls' := #[true, true, true, true, true, true, true, true, true, true, true, true, true, true, false, true, true, true, false]) rfl (by kernel_rfl) (T_s2b rfl underlying9 underlying101 underlying5 H256_ ?_)
        intro b259_ cp260_ w261_ S263_ hc264_ H262_
        have S265_ := Same.trans (Same.trans S51_ (Same.drew _)) S263_
        have H266_ := Holds.resl H262_ 0 rfl (byteCells_bytesV _ : byteCells o.w_Key = bytesV (ints o.w_Key)) rfl
        have H267_ := Holds.resl H266_ 0 rfl (rfl : bytesV (ints o.w_Key) = bytesV (ints o.w_Key)) ((ints_length _).symm : o.w_Key.size = (List.length (ints o.w_Key)))
        refine ⟨⟨Holds.rd H267_ 2 rfl, Holds.rd H267_ 5 rfl, Holds.rd H267_ 6 rfl, Holds.rd H267_ 7 rfl, (And.intro (Holds.rdf H267_ 12 rfl) (Holds.blk H267_ 12 rfl)), (Holds.ro_at H267_ 1 rfl)⟩, ?_⟩
        refine A_ready (i := 14) (rs := []) (by kernel_rfl) ?_
        refine AllR.cons ?_ AllR.nil
        have H277_ := ((Holds.bring H267_ 1 rfl) :)
        refine A_op (ls' := #[true, true, true, true, true, true, true, true, true, true, true, true, true, true, true, true, true, true, false]) rfl (by kernel_rfl) (T_callG (al := [(Value.string o.w_End), (vB o.w_HasEnd)]) (pre := []) rfl rfl cb43 (gEnd R o.w_End o.w_HasEnd (hz)) H277_ ?_)
        rintro R269_ v270_ p281_ w278_ hs268_ hq282_ S280_ H279_
        rcases hq282_ with ⟨rfl, rfl, he271_⟩ | ⟨ea272_, em273_, ec274_, rfl, rfl, he275_, he276_⟩
        ·skip
         have S283_ := Same.trans S265_ S280_
         refine ⟨⟨Holds.rd H279_ 2 rfl, Holds.rd H279_ 5 rfl, Holds.rd H279_ 6 rfl, Holds.rd H279_ 7 rfl, (And.intro (Holds.rdf H279_ 12 rfl) (Holds.blk H279_ 12 rfl)), (Sub.trans' hs268_ (Holds.ro_at H279_ 0 rfl))⟩, ?_⟩
         refine A_ready (i := 18) (rs := []) (by kernel_rfl) ?_
         refine AllR.cons ?_ AllR.nil
         obtain ⟨R285_, hs286_, ⟨R287_, ha288_, hs289_⟩, H290_⟩ := Holds.gift H279_
         have hz_R_R285_ := Sub.trans' hs268_ hs286_
         have hr291_ : RS R285_ 1 (vS (some ⟨b259_, 0, none⟩) o.w_Key.size cp260_) (List.length (ints o.w_Key)) (bytesV (ints o.w_Key)) := (sl_RS ha288_ (Sub.rfl' _)).mono hs289_
         have H302_ := ((Holds.bring (Holds.bring (Holds.bring (Holds.bring (Holds.bring (Holds.bring (Holds.bring (Holds.bring (Holds.bring H290_ 3 rfl) 3 rfl) 11 rfl) 11 rfl) 11 rfl) 11 rfl) 11 rfl) 8 rfl) 8 rfl) :)
         refine A_op (ls' := #[true, true, true, true, true, true, true, true, true, true, true, true, true, true, true, true, true, true, true]) rfl (by kernel_rfl) (T_callG (al := [(vQ zb), (vI .i64 ((wOf o).iD)), (vS (some ⟨b259_, 0, none⟩) o.w_Key.size cp260_), (vS none 0 0), (vI .i64 ((wOf o).minRev))]) (pre := [cl zb 97 [(Value.map (some kb)), (Value.iface 183 (vQ tb)), (Value.map (some wb)), (Value.map (some ib))], mp Value.string kb KM, setsP (List.map Prod.fst PM) S, cl tb 185 [(vQ (rt sb W)), (vI .i64 cnt), (vQ sb)], tr sb sb W, clf sb 182 [(Value.nilIface), (Value.nilIface), (Value.nilIface), (Value.nilIface), (vP none), (vP none), (vP none), (vI .i64 0)], mp pn wb (aggm PM), mp (vI .i64) ib (idm PM)]) rfl (lcons rfl (lcons (congrArg (vI .i64) ((by first | rfl | omega | (simp; done) | (simp; omega)) : o.w_ID = (wOf o).iD)) (lcons rfl (lcons rfl (lcons (congrArg (vI .i64) ((by first | rfl | omega | (simp; done) | (simp; omega)) : o.w_MinRev = (wOf o).minRev)) rfl))))) cb42 (gzAdd R285_ zb kb tb sb wb ib cnt PM KM S W (some ⟨b259_, 0, none⟩) none o.w_Key.size cp260_ 0 0 (wOf o) (RS.set_ hr291_ (by first | rfl | (simp [GW.cells, GO.cells, GA.cells]; done)) (by first | rfl | omega | (simp; done) | (simp; omega))) ((.inl ⟨he271_, rfl⟩)) ((hG.mono hz_R_R285_)) (hcn) (hpl) (he30_) (hnd)) H302_ ?_)
         rintro R293_ v294_ p306_ w303_ hs292_ ⟨a295_, KM296_, S297_, W298_, cnt299_, rfl, rfl, he300_, he301_⟩ S305_ H304_
         have S307_ := Same.trans S283_ S305_
         have hz_R_R293_ := Sub.trans' hz_R_R285_ hs292_
         have hz_R269__R293_ := Sub.trans' hs286_ hs292_
         refine ⟨⟨Holds.rd H304_ 1 rfl, Holds.rd H304_ 9 rfl, Holds.rd H304_ 10 rfl, Holds.rd H304_ 11 rfl, (And.intro (Holds.rdf H304_ 6 rfl) (Holds.blk H304_ 6 rfl)), (Sub.trans' hz_R_R293_ (Holds.ro_at H304_ 0 rfl))⟩, ?_⟩
         refine A_done (by kernel_rfl) ?_
         refine (X_then (hK255_ _ _ ?_))
         refine C_reg ?_
         refine sv (v := (vQ b13_)) (by kernel_rfl) ?_
         refine S_list0 (T_store1 (v := (vB true)) rfl rfl z4 rfl H304_ 9 rfl (Nat.le_of_ble_eq_true (by rfl)) ?_)
         intro w308_ S310_ H309_
         have S311_ := Same.trans S307_ S310_
         refine wpList_nil (X_blkN (X_then (hK22_ _ _ ?_)))
         refine cR fun _ hK312_ => ?_
         refine sv (v := (vA #[(vB true), (vI .i64 0), (vS none 0 0), (vS none 0 0)])) (x_loadN (vs := [(vB true), (vI .i64 0), (vS none 0 0), (vS none 0 0)]) rfl underlying42 rfl z42 rfl (Rd.cells (Holds.rd H309_ 9 rfl) 0 rfl)) ?_
         refine S_list0 (T_storeN (vs := [(vB true), (vI .i64 0), (vS none 0 0), (vS none 0 0)]) rfl rfl z42 rfl (by simp [Value.oneCell']) H309_ 10 rfl (Nat.le_of_ble_eq_true (by rfl)) ?_)
         intro w313_ S315_ H314_
         have S316_ := Same.trans S311_ S315_
         refine wn (hK312_ _ _ ?_)
         refine C_ret ?_
         refine R_any (v := (vA #[(vB true), (vI .i64 0), (vS none 0 0), (vS none 0 0)])) (run_results1 rfl ⟨_, rfl, load_resN underlying42 rfl z42 rfl (vs := [(vB true), (vI .i64 0), (vS none 0 0), (vS none 0 0)]) (Holds.cl_cells H314_ 10 rfl 0 rfl)⟩) ?_
         have H317_ := Holds.pkF H314_ [0, 0, 0, 0, 0, 0, 0, 0, 0] 3
         exact ⟨R293_, _, _, rfl, hz_R_R293_, (.inr ⟨a295_, KM296_, S297_, W298_, cnt299_, rfl, rfl, (he30_), (he300_), (he301_)⟩), S316_, H317_⟩
        ·skip
         have S284_ := Same.trans S265_ S280_
         refine ⟨⟨Holds.rd H279_ 2 rfl, Holds.rd H279_ 5 rfl, Holds.rd H279_ 6 rfl, Holds.rd H279_ 7 rfl, (And.intro (Holds.rdf H279_ 12 rfl) (Holds.blk H279_ 12 rfl)), (Sub.trans' hs268_ (Holds.ro_at H279_ 0 rfl))⟩, ?_⟩
         refine A_ready (i := 18) (rs := []) (by kernel_rfl) ?_
         refine AllR.cons ?_ AllR.nil
         obtain ⟨R318_, hs319_, ⟨R320_, ha321_, hs322_⟩, H323_⟩ := Holds.gift H279_
         have hz_R_R318_ := Sub.trans' hs268_ hs319_
         have hr324_ : RS R318_ 1 (vS (some ⟨b259_, 0, none⟩) o.w_Key.size cp260_) (List.length (ints o.w_Key)) (bytesV (ints o.w_Key)) := (sl_RS ha321_ (Sub.rfl' _)).mono hs322_
         have H335_ := ((Holds.bring (Holds.bring (Holds.bring (Holds.bring (Holds.bring (Holds.bring (Holds.bring (Holds.bring (Holds.bring H323_ 3 rfl) 3 rfl) 11 rfl) 11 rfl) 11 rfl) 11 rfl) 11 rfl) 8 rfl) 8 rfl) :)
         refine A_op (ls' := #[true, true, true, true, true, true, true, true, true, true, true, true, true, true, true, true, true, true, true]) rfl (by kernel_rfl) (T_callG (al := [(vQ zb), (vI .i64 ((wOf o).iD)), (vS (some ⟨b259_, 0, none⟩) o.w_Key.size cp260_), (vS (some ea272_) em273_ ec274_), (vI .i64 ((wOf o).minRev))]) (pre := [cl zb 97 [(Value.map (some kb)), (Value.iface 183 (vQ tb)), (Value.map (some wb)), (Value.map (some ib))], mp Value.string kb KM, setsP (List.map Prod.fst PM) S, cl tb 185 [(vQ (rt sb W)), (vI .i64 cnt), (vQ sb)], tr sb sb W, clf sb 182 [(Value.nilIface), (Value.nilIface), (Value.nilIface), (Value.nilIface), (vP none), (vP none), (vP none), (vI .i64 0)], mp pn wb (aggm PM), mp (vI .i64) ib (idm PM)]) rfl (lcons rfl (lcons (congrArg (vI .i64) ((by first | rfl | omega | (simp; done) | (simp; omega)) : o.w_ID = (wOf o).iD)) (lcons rfl (lcons rfl (lcons (congrArg (vI .i64) ((by first | rfl | omega | (simp; done) | (simp; omega)) : o.w_MinRev = (wOf o).minRev)) rfl))))) cb42 (gzAdd R318_ zb kb tb sb wb ib cnt PM KM S W (some ⟨b259_, 0, none⟩) (some ea272_) o.w_Key.size cp260_ em273_ ec274_ (wOf o) (RS.set_ hr324_ (by first | rfl | (simp [GW.cells, GO.cells, GA.cells]; done)) (by first | rfl | omega | (simp; done) | (simp; omega))) ((.inr ⟨he275_, _, _, _, rfl, (he276_.mono hs319_)⟩)) ((hG.mono hz_R_R318_)) (hcn) (hpl) (he30_) (hnd)) H335_ ?_)
         rintro R326_ v327_ p339_ w336_ hs325_ ⟨a328_, KM329_, S330_, W331_, cnt332_, rfl, rfl, he333_, he334_⟩ S338_ H337_
         have S340_ := Same.trans S284_ S338_
         have hz_R_R326_ := Sub.trans' hz_R_R318_ hs325_
         have hz_R269__R326_ := Sub.trans' hs319_ hs325_
         refine ⟨⟨Holds.rd H337_ 1 rfl, Holds.rd H337_ 9 rfl, Holds.rd H337_ 10 rfl, Holds.rd H337_ 11 rfl, (And.intro (Holds.rdf H337_ 6 rfl) (Holds.blk H337_ 6 rfl)), (Sub.trans' hz_R_R326_ (Holds.ro_at H337_ 0 rfl))⟩, ?_⟩
         refine A_done (by kernel_rfl) ?_
         refine (X_then (hK255_ _ _ ?_))
         refine C_reg ?_
         refine sv (v := (vQ b13_)) (by kernel_rfl) ?_
         refine S_list0 (T_store1 (v := (vB true)) rfl rfl z4 rfl H337_ 9 rfl (Nat.le_of_ble_eq_true (by rfl)) ?_)
         intro w341_ S343_ H342_
         have S344_ := Same.trans S340_ S343_
         refine wpList_nil (X_blkN (X_then (hK22_ _ _ ?_)))
         refine cR fun _ hK345_ => ?_
         refine sv (v := (vA #[(vB true), (vI .i64 0), (vS none 0 0), (vS none 0 0)])) (x_loadN (vs := [(vB true), (vI .i64 0), (vS none 0 0), (vS none 0 0)]) rfl underlying42 rfl z42 rfl (Rd.cells (Holds.rd H342_ 9 rfl) 0 rfl)) ?_
         refine S_list0 (T_storeN (vs := [(vB true), (vI .i64 0), (vS none 0 0), (vS none 0 0)]) rfl rfl z42 rfl (by simp [Value.oneCell']) H342_ 10 rfl (Nat.le_of_ble_eq_true (by rfl)) ?_)
         intro w346_ S348_ H347_
         have S349_ := Same.trans S344_ S348_
         refine wn (hK345_ _ _ ?_)
         refine C_ret ?_
         refine R_any (v := (vA #[(vB true), (vI .i64 0), (vS none 0 0), (vS none 0 0)])) (run_results1 rfl ⟨_, rfl, load_resN underlying42 rfl z42 rfl (vs := [(vB true), (vI .i64 0), (vS none 0 0), (vS none 0 0)]) (Holds.cl_cells H347_ 10 rfl 0 rfl)⟩) ?_
         have H350_ := Holds.pkF H347_ [0, 0, 0, 0, 0, 0, 0, 0, 0] 3
         exact ⟨R326_, _, _, rfl, hz_R_R326_, (.inr ⟨a328_, KM329_, S330_, W331_, cnt332_, rfl, rfl, (he30_), (he333_), (he334_)⟩), S349_, H350_⟩
       refine AllR.cons ?_ AllR.nil
       refine A_op (ls' := #[true, true, true, true, true, true, true, false, true, true, true, true, true, true, true, true, true, true, false]) rfl (by kernel_rfl) (T_callG (al := [(Value.string o.w_End), (vB o.w_HasEnd)]) (pre := []) rfl rfl cb43 (gEnd R o.w_End o.w_HasEnd (hz)) H256_ ?_)
       rintro R352_ v353_ p363_ w360_ hs351_ hq364_ S362_ H361_
       rcases hq364_ with ⟨rfl, rfl, he354_⟩ | ⟨ea355_, em356_, ec357_, rfl, rfl, he358_, he359_⟩
       ·skip
        have S365_ := Same.trans (Same.trans S51_ (Same.drew _)) S362_
        refine ⟨⟨Holds.rd H361_ 1 rfl, Holds.rd H361_ 4 rfl, Holds.rd H361_ 5 rfl, Holds.rd H361_ 6 rfl, (And.intro (Holds.rdf H361_ 11 rfl) (Holds.blk H361_ 11 rfl)), (Sub.trans' hs351_ (Holds.ro_at H361_ 0 rfl))⟩, ?_⟩
        refine A_ready (i := 7) (rs := []) (by kernel_rfl) ?_
        refine AllR.cons ?_ AllR.nil
        refine A_op (ls' := #[true, true, true, true, true, true, true, true, true, true, true, true, true, true, true, true, true, true, false]) rfl (by kernel_rfl) (T_s2b rfl underlying9 underlying101 underlying5 H361_ ?_)
        intro b367_ cp368_ w369_ S371_ hc372_ H370_
        have S373_ := Same.trans S365_ S371_
        have H374_ := Holds.resl H370_ 0 rfl (byteCells_bytesV _ : byteCells o.w_Key = bytesV (ints o.w_Key)) rfl
        have H375_ := Holds.resl H374_ 0 rfl (rfl : bytesV (ints o.w_Key) = bytesV (ints o.w_Key)) ((ints_length _).symm : o.w_Key.size = (List.length (ints o.w_Key)))
        refine ⟨⟨Holds.rd H375_ 2 rfl, Holds.rd H375_ 5 rfl, Holds.rd H375_ 6 rfl, Holds.rd H375_ 7 rfl, (And.intro (Holds.rdf H375_ 12 rfl) (Holds.blk H375_ 12 rfl)), (Sub.trans' hs351_ (Holds.ro_at H375_ 1 rfl))⟩, ?_⟩
        refine A_ready (i := 18) (rs := []) (by kernel_rfl) ?_
        refine AllR.cons ?_ AllR.nil
        have H376_ := ((Holds.bring H375_ 1 rfl) :)
        obtain ⟨R377_, hs378_, ⟨R379_, ha380_, hs381_⟩, H382_⟩ := Holds.gift H376_
        have hz_R_R377_ := Sub.trans' hs351_ hs378_
        have hr383_ : RS R377_ 1 (vS (some ⟨b367_, 0, none⟩) o.w_Key.size cp368_) (List.length (ints o.w_Key)) (bytesV (ints o.w_Key)) := (sl_RS ha380_ (Sub.rfl' _)).mono hs381_
        have H394_ := ((Holds.bring (Holds.bring (Holds.bring (Holds.bring (Holds.bring (Holds.bring (Holds.bring (Holds.bring (Holds.bring H382_ 3 rfl) 3 rfl) 11 rfl) 11 rfl) 11 rfl) 11 rfl) 11 rfl) 8 rfl) 8 rfl) :)
        refine A_op (ls' := #[true, true, true, true, true, true, true, true, true, true, true, true, true, true, true, true, true, true, true]) rfl (by kernel_rfl) (T_callG (al := [(vQ zb), (vI .i64 ((wOf o).iD)), (vS (some ⟨b367_, 0, none⟩) o.w_Key.size cp368_), (vS none 0 0), (vI .i64 ((wOf o).minRev))]) (pre := [cl zb 97 [(Value.map (some kb)), (Value.iface 183 (vQ tb)), (Value.map (some wb)), (Value.map (some ib))], mp Value.string kb KM, setsP (List.map Prod.fst PM) S, cl tb 185 [(vQ (rt sb W)), (vI .i64 cnt), (vQ sb)], tr sb sb W, clf sb 182 [(Value.nilIface), (Value.nilIface), (Value.nilIface), (Value.nilIface), (vP none), (vP none), (vP none), (vI .i64 0)], mp pn wb (aggm PM), mp (vI .i64) ib (idm PM)]) rfl (lcons rfl (lcons (congrArg (vI .i64) ((by first | rfl | omega | (simp; done) | (simp; omega)) : o.w_ID = (wOf o).iD)) (lcons rfl (lcons rfl (lcons (congrArg (vI .i64) ((by first | rfl | omega | (simp; done) | (simp; omega)) : o.w_MinRev = (wOf o).minRev)) rfl))))) cb42 (gzAdd R377_ zb kb tb sb wb ib cnt PM KM S W (some ⟨b367_, 0, none⟩) none o.w_Key.size cp368_ 0 0 (wOf o) (RS.set_ hr383_ (by first | rfl | (simp [GW.cells, GO.cells, GA.cells]; done)) (by first | rfl | omega | (simp; done) | (simp; omega))) ((.inl ⟨he354_, rfl⟩)) ((hG.mono hz_R_R377_)) (hcn) (hpl) (he30_) (hnd)) H394_ ?_)
        rintro R385_ v386_ p398_ w395_ hs384_ ⟨a387_, KM388_, S389_, W390_, cnt391_, rfl, rfl, he392_, he393_⟩ S397_ H396_
        have S399_ := Same.trans S373_ S397_
        have hz_R_R385_ := Sub.trans' hz_R_R377_ hs384_
        have hz_R352__R385_ := Sub.trans' hs378_ hs384_
        refine ⟨⟨Holds.rd H396_ 1 rfl, Holds.rd H396_ 9 rfl, Holds.rd H396_ 10 rfl, Holds.rd H396_ 11 rfl, (And.intro (Holds.rdf H396_ 6 rfl) (Holds.blk H396_ 6 rfl)), (Sub.trans' hz_R_R385_ (Holds.ro_at H396_ 0 rfl))⟩, ?_⟩
        refine A_done (by kernel_rfl) ?_
        refine (X_then (hK255_ _ _ ?_))
        refine C_reg ?_
        refine sv (v := (vQ b13_)) (by kernel_rfl) ?_
        refine S_list0 (T_store1 (v := (vB true)) rfl rfl z4 rfl H396_ 9 rfl (Nat.le_of_ble_eq_true (by rfl)) ?_)
        intro w400_ S402_ H401_
        have S403_ := Same.trans S399_ S402_
        refine wpList_nil (X_blkN (X_then (hK22_ _ _ ?_)))
        refine cR fun _ hK404_ => ?_
        refine sv (v := (vA #[(vB true), (vI .i64 0), (vS none 0 0), (vS none 0 0)])) (x_loadN (vs := [(vB true), (vI .i64 0), (vS none 0 0), (vS none 0 0)]) rfl underlying42 rfl z42 rfl (Rd.cells (Holds.rd H401_ 9 rfl) 0 rfl)) ?_
        refine S_list0 (T_storeN (vs := [(vB true), (vI .i64 0), (vS none 0 0), (vS none 0 0)]) rfl rfl z42 rfl (by simp [Value.oneCell']) H401_ 10 rfl (Nat.le_of_ble_eq_true (by rfl)) ?_)
        intro w405_ S407_ H406_
        have S408_ := Same.trans S403_ S407_
        refine wn (hK404_ _ _ ?_)
        refine C_ret ?_
        refine R_any (v := (vA #[(vB true), (vI .i64 0), (vS none 0 0), (vS none 0 0)])) (run_results1 rfl ⟨_, rfl, load_resN underlying42 rfl z42 rfl (vs := [(vB true), (vI .i64 0), (vS none 0 0), (vS none 0 0)]) (Holds.cl_cells H406_ 10 rfl 0 rfl)⟩) ?_
        have H409_ := Holds.pkF H406_ [0, 0, 0, 0, 0, 0, 0, 0, 0] 3
        exact ⟨R385_, _, _, rfl, hz_R_R385_, (.inr ⟨a387_, KM388_, S389_, W390_, cnt391_, rfl, rfl, (he30_), (he392_), (he393_)⟩), S408_, H409_⟩
       ·skip
        have S366_ := Same.trans (Same.trans S51_ (Same.drew _)) S362_
        refine ⟨⟨Holds.rd H361_ 1 rfl, Holds.rd H361_ 4 rfl, Holds.rd H361_ 5 rfl, Holds.rd H361_ 6 rfl, (And.intro (Holds.rdf H361_ 11 rfl) (Holds.blk H361_ 11 rfl)), (Sub.trans' hs351_ (Holds.ro_at H361_ 0 rfl))⟩, ?_⟩
        refine A_ready (i := 7) (rs := []) (by kernel_rfl) ?_
        refine AllR.cons ?_ AllR.nil
        refine A_op (ls' := #[true, true, true, true, true, true, true, true, true, true, true, true, true, true, true, true, true, true, false]) rfl (by kernel_rfl) (T_s2b rfl underlying9 underlying101 underlying5 H361_ ?_)
        intro b410_ cp411_ w412_ S414_ hc415_ H413_
        have S416_ := Same.trans S366_ S414_
        have H417_ := Holds.resl H413_ 0 rfl (byteCells_bytesV _ : byteCells o.w_Key = bytesV (ints o.w_Key)) rfl
        have H418_ := Holds.resl H417_ 0 rfl (rfl : bytesV (ints o.w_Key) = bytesV (ints o.w_Key)) ((ints_length _).symm : o.w_Key.size = (List.length (ints o.w_Key)))
        refine ⟨⟨Holds.rd H418_ 2 rfl, Holds.rd H418_ 5 rfl, Holds.rd H418_ 6 rfl, Holds.rd H418_ 7 rfl, (And.intro (Holds.rdf H418_ 12 rfl) (Holds.blk H418_ 12 rfl)), (Sub.trans' hs351_ (Holds.ro_at H418_ 1 rfl))⟩, ?_⟩
        refine A_ready (i := 18) (rs := []) (by kernel_rfl) ?_
        refine AllR.cons ?_ AllR.nil
        have H419_ := ((Holds.bring H418_ 1 rfl) :)
        obtain ⟨R420_, hs421_, ⟨R422_, ha423_, hs424_⟩, H425_⟩ := Holds.gift H419_
        have hz_R_R420_ := Sub.trans' hs351_ hs421_
        have hr426_ : RS R420_ 1 (vS (some ⟨b410_, 0, none⟩) o.w_Key.size cp411_) (List.length (ints o.w_Key)) (bytesV (ints o.w_Key)) := (sl_RS ha423_ (Sub.rfl' _)).mono hs424_
        have H437_ := ((Holds.bring (Holds.bring (Holds.bring (Holds.bring (Holds.bring (Holds.bring (Holds.bring (Holds.bring (Holds.bring H425_ 3 rfl) 3 rfl) 11 rfl) 11 rfl) 11 rfl) 11 rfl) 11 rfl) 8 rfl) 8 rfl) :)
        refine A_op (ls' := #[true, true, true, true, true, true, true, true, true, true, true, true, true, true, true, true, true, true, true]) rfl (by kernel_rfl) (T_callG (al := [(vQ zb), (vI .i64 ((wOf o).iD)), (vS (some ⟨b410_, 0, none⟩) o.w_Key.size cp411_), (vS (some ea355_) em356_ ec357_), (vI .i64 ((wOf o).minRev))]) (pre := [cl zb 97 [(Value.map (some kb)), (Value.iface 183 (vQ tb)), (Value.map (some wb)), (Value.map (some ib))], mp Value.string kb KM, setsP (List.map Prod.fst PM) S, cl tb 185 [(vQ (rt sb W)), (vI .i64 cnt), (vQ sb)], tr sb sb W, clf sb 182 [(Value.nilIface), (Value.nilIface), (Value.nilIface), (Value.nilIface), (vP none), (vP none), (vP none), (vI .i64 0)], mp pn wb (aggm PM), mp (vI .i64) ib (idm PM)]) rfl (lcons rfl (lcons (congrArg (vI .i64) ((by first | rfl | omega | (simp; done) | (simp; omega)) : o.w_ID = (wOf o).iD)) (lcons rfl (lcons rfl (lcons (congrArg (vI .i64) ((by first | rfl | omega | (simp; done) | (simp; omega)) : o.w_MinRev = (wOf o).minRev)) rfl))))) cb42 (gzAdd R420_ zb kb tb sb wb ib cnt PM KM S W (some ⟨b410_, 0, none⟩) (some ea355_) o.w_Key.size cp411_ em356_ ec357_ (wOf o) (RS.set_ hr426_ (by first | rfl | (simp [GW.cells, GO.cells, GA.cells]; done)) (by first | rfl | omega | (simp; done) | (simp; omega))) ((.inr ⟨he358_, _, _, _, rfl, (he359_.mono hs421_)⟩)) ((hG.mono hz_R_R420_)) (hcn) (hpl) (he30_) (hnd)) H437_ ?_)
        rintro R428_ v429_ p441_ w438_ hs427_ ⟨a430_, KM431_, S432_, W433_, cnt434_, rfl, rfl, he435_, he436_⟩ S440_ H439_
        have S442_ := Same.trans S416_ S440_
        have hz_R_R428_ := Sub.trans' hz_R_R420_ hs427_
        have hz_R352__R428_ := Sub.trans' hs421_ hs427_
        refine ⟨⟨Holds.rd H439_ 1 rfl, Holds.rd H439_ 9 rfl, Holds.rd H439_ 10 rfl, Holds.rd H439_ 11 rfl, (And.intro (Holds.rdf H439_ 6 rfl) (Holds.blk H439_ 6 rfl)), (Sub.trans' hz_R_R428_ (Holds.ro_at H439_ 0 rfl))⟩, ?_⟩
        refine A_done (by kernel_rfl) ?_
        refine (X_then (hK255_ _ _ ?_))
        refine C_reg ?_
        refine sv (v := (vQ b13_)) (by kernel_rfl) ?_
        refine S_list0 (T_store1 (v := (vB true)) rfl rfl z4 rfl H439_ 9 rfl (Nat.le_of_ble_eq_true (by rfl)) ?_)
        intro w443_ S445_ H444_
        have S446_ := Same.trans S442_ S445_
        refine wpList_nil (X_blkN (X_then (hK22_ _ _ ?_)))
        refine cR fun _ hK447_ => ?_
        refine sv (v := (vA #[(vB true), (vI .i64 0), (vS none 0 0), (vS none 0 0)])) (x_loadN (vs := [(vB true), (vI .i64 0), (vS none 0 0), (vS none 0 0)]) rfl underlying42 rfl z42 rfl (Rd.cells (Holds.rd H444_ 9 rfl) 0 rfl)) ?_
        refine S_list0 (T_storeN (vs := [(vB true), (vI .i64 0), (vS none 0 0), (vS none 0 0)]) rfl rfl z42 rfl (by simp [Value.oneCell']) H444_ 10 rfl (Nat.le_of_ble_eq_true (by rfl)) ?_)
        intro w448_ S450_ H449_
        have S451_ := Same.trans S446_ S450_
        refine wn (hK447_ _ _ ?_)
        refine C_ret ?_
        refine R_any (v := (vA #[(vB true), (vI .i64 0), (vS none 0 0), (vS none 0 0)])) (run_results1 rfl ⟨_, rfl, load_resN underlying42 rfl z42 rfl (vs := [(vB true), (vI .i64 0), (vS none 0 0), (vS none 0 0)]) (Holds.cl_cells H449_ 10 rfl 0 rfl)⟩) ?_
        have H452_ := Holds.pkF H449_ [0, 0, 0, 0, 0, 0, 0, 0, 0] 3
        exact ⟨R428_, _, _, rfl, hz_R_R428_, (.inr ⟨a430_, KM431_, S432_, W433_, cnt434_, rfl, rfl, (he30_), (he435_), (he436_)⟩), S451_, H452_⟩
    ·skip
     refine S_no (j := 14) (dj := 27) (b := false) rfl rfl (congrArg vB c53_f) (by decide) ?_
     refine S_no (j := 14) (dj := 27) (b := false) rfl rfl (congrArg vB c53_f) (by decide) ?_
     refine S_no (j := 14) (dj := 27) (b := false) rfl rfl (congrArg vB c53_f) (by decide) ?_
     refine S_no (j := 14) (dj := 27) (b := false) rfl rfl (congrArg vB c53_f) (by decide) ?_
     refine S_no (j := 14) (dj := 27) (b := false) rfl rfl (congrArg vB c53_f) (by decide) ?_
     refine S_noU (j := 19) (dj := 32) rfl rfl rfl ?_
     refine S_noU (j := 19) (dj := 32) rfl rfl rfl ?_
     refine S_noU (j := 19) (dj := 32) rfl rfl rfl ?_
     refine S_noU (j := 19) (dj := 32) rfl rfl rfl ?_
     refine S_noU (j := 19) (dj := 32) rfl rfl rfl ?_
     refine S_noU (j := 24) (dj := 37) rfl rfl rfl ?_
     refine S_noU (j := 24) (dj := 37) rfl rfl rfl ?_
     refine S_noU (j := 24) (dj := 37) rfl rfl rfl ?_
     refine S_noU (j := 24) (dj := 37) rfl rfl rfl ?_
     refine S_noU (j := 24) (dj := 37) rfl rfl rfl ?_
     refine S_noU (j := 24) (dj := 37) rfl rfl rfl ?_
     refine S_noU (j := 24) (dj := 37) rfl rfl rfl ?_
     refine S_noU (j := 19) (dj := 32) rfl rfl rfl ?_
     refine S_no (j := 14) (dj := 27) (b := false) rfl rfl (congrArg vB c53_f) (by decide) ?_
     refine S_yes (j := 10) (dj := 23) (b := false) rfl rfl (congrArg vB c52_f) (T_pickF (v := (vB false)) (congrArg vB c53_f) rfl ?_)
     refine S_list (T_pickF (v := (vB false)) (congrArg vB c52_f) rfl ?_)
     refine wn (hK27_ _ _ ?_)
     refine C_condF rfl ?_
     refine C_skip (X_then (hK26_ _ _ ?_))
     refine C_seq (fun _ hK453_ => ?_)
     refine A_start (S := fun w => Rd zb [(Value.map (some kb)), (Value.iface 183 (vQ tb)), (Value.map (some wb)), (Value.map (some ib))] w ∧ Rd b13_ [(vB false), (vI .i64 0), (vS none 0 0), (vS none 0 0)] w ∧ Rd b7_ [(vB false), (vI .i64 0), (vS none 0 0), (vS none 0 0)] w ∧ Rd b2_ [(vI .i64 o.kind), (vI .i64 o.w_ID), (Value.string o.w_Key), (Value.string o.w_End), (vB o.w_HasEnd), (vI .i64 o.w_MinRev), (Value.string o.key), (vI .i64 o.cur), (vI .i64 o.compact), o.events] w ∧ (Rd sb [(Value.nilIface), (Value.nilIface), (Value.nilIface), (Value.nilIface), (vP none), (vP none), (vP none), (vI .i64 0)] w ∧ Blk w sb) ∧ Sub R (hp w)) (N := 19) foll rfl rfl ?_
     have H454_ := Holds.drew_ H48_
     have hq456_ := And.intro (Holds.rd H454_ 1 rfl) (And.intro (Holds.rd H454_ 4 rfl) (And.intro (Holds.rd H454_ 5 rfl) (And.intro (Holds.rd H454_ 6 rfl) (And.intro ((And.intro (Holds.rdf H454_ 11 rfl) (Holds.blk H454_ 11 rfl))) ((Holds.ro_at H454_ 0 rfl))))))
     refine A_tk 0 (v := (vQ zb)) rfl (by kernel_rfl) (fun w hS => x_move rfl) hq456_ ?_
     refine A_tk 1 (v := (vP (some ⟨b2_, 1, none⟩))) rfl (by kernel_rfl) (fun w hS => by kernel_rfl) hq456_ ?_
     refine A_tk 2 (v := (vP (some ⟨b2_, 1, none⟩))) rfl (by kernel_rfl) (fun w hS => by kernel_rfl) hq456_ ?_
     refine A_tk 3 (v := (vI .i64 o.w_ID)) rfl (by kernel_rfl) (fun w hS => x_load1 rfl underlying2 rfl (hS.2.2.2.1 1 (vI .i64 o.w_ID) rfl)) hq456_ ?_
     refine A_tk 4 (v := (vP (some ⟨b2_, 1, none⟩))) rfl (by kernel_rfl) (fun w hS => by kernel_rfl) hq456_ ?_
     refine A_tk 5 (v := (vP (some ⟨b2_, 2, none⟩))) rfl (by kernel_rfl) (fun w hS => by kernel_rfl) hq456_ ?_
     refine A_tk 6 (v := (Value.string o.w_Key)) rfl (by kernel_rfl) (fun w hS => x_load1 rfl underlying9 rfl (hS.2.2.2.1 2 (Value.string o.w_Key) rfl)) hq456_ ?_
     refine A_tk 8 (v := (vP (some ⟨b2_, 1, none⟩))) rfl (by kernel_rfl) (fun w hS => by kernel_rfl) hq456_ ?_
     refine A_tk 9 (v := (vP (some ⟨b2_, 3, none⟩))) rfl (by kernel_rfl) (fun w hS => by kernel_rfl) hq456_ ?_
     refine A_tk 10 (v := (Value.string o.w_End)) rfl (by kernel_rfl) (fun w hS => x_load1 rfl underlying9 rfl (hS.2.2.2.1 3 (Value.string o.w_End) rfl)) hq456_ ?_
     refine A_tk 11 (v := (vP (some ⟨b2_, 1, none⟩))) rfl (by kernel_rfl) (fun w hS => by kernel_rfl) hq456_ ?_
     refine A_tk 12 (v := (vP (some ⟨b2_, 4, none⟩))) rfl (by kernel_rfl) (fun w hS => by kernel_rfl) hq456_ ?_
     refine A_tk 13 (v := (vB o.w_HasEnd)) rfl (by kernel_rfl) (fun w hS => x_load1 rfl underlying4 rfl (hS.2.2.2.1 4 (vB o.w_HasEnd) rfl)) hq456_ ?_
     refine A_tk 15 (v := (vP (some ⟨b2_, 1, none⟩))) rfl (by kernel_rfl) (fun w hS => by kernel_rfl) hq456_ ?_
     refine A_tk 16 (v := (vP (some ⟨b2_, 5, none⟩))) rfl (by kernel_rfl) (fun w hS => by kernel_rfl) hq456_ ?_
     refine A_tk 17 (v := (vI .i64 o.w_MinRev)) rfl (by kernel_rfl) (fun w hS => x_load1 rfl underlying2 rfl (hS.2.2.2.1 5 (vI .i64 o.w_MinRev) rfl)) hq456_ ?_
     refine A_ready (i := 7) (rs := [14]) (by kernel_rfl) ?_
     refine AllR.cons ?_ ?_
     ·skip
      refine A_op (ls' := #[true, true, true, true, true, true, true, true, true, true, true, true, true, true, false, true, true, true, false]) rfl (by kernel_rfl) (T_s2b rfl underlying9 underlying101 underlying5 H454_ ?_)
      intro b457_ cp458_ w459_ S461_ hc462_ H460_
      have S463_ := Same.trans (Same.trans S51_ (Same.drew _)) S461_
      have H464_ := Holds.resl H460_ 0 rfl (byteCells_bytesV _ : byteCells o.w_Key = bytesV (ints o.w_Key)) rfl
      have H465_ := Holds.resl H464_ 0 rfl (rfl : bytesV (ints o.w_Key) = bytesV (ints o.w_Key)) ((ints_length _).symm : o.w_Key.size = (List.length (ints o.w_Key)))
      refine ⟨⟨Holds.rd H465_ 2 rfl, Holds.rd H465_ 5 rfl, Holds.rd H465_ 6 rfl, Holds.rd H465_ 7 rfl, (And.intro (Holds.rdf H465_ 12 rfl) (Holds.blk H465_ 12 rfl)), (Holds.ro_at H465_ 1 rfl)⟩, ?_⟩
      refine A_ready (i := 14) (rs := []) (by kernel_rfl) ?_
      refine AllR.cons ?_ AllR.nil
      have H475_ := ((Holds.bring H465_ 1 rfl) :)
      refine A_op (ls' := #[true, true, true, true, true, true, true, true, true, true, true, true, true, true, true, true, true, true, false]) rfl (by kernel_rfl) (T_callG (al := [(Value.string o.w_End), (vB o.w_HasEnd)]) (pre := []) rfl rfl cb43 (gEnd R o.w_End o.w_HasEnd (hz)) H475_ ?_)
      rintro R467_ v468_ p479_ w476_ hs466_ hq480_ S478_ H477_
      rcases hq480_ with ⟨rfl, rfl, he469_⟩ | ⟨ea470_, em471_, ec472_, rfl, rfl, he473_, he474_⟩
      ·skip
       have S481_ := Same.trans S463_ S478_
       refine ⟨⟨Holds.rd H477_ 2 rfl, Holds.rd H477_ 5 rfl, Holds.rd H477_ 6 rfl, Holds.rd H477_ 7 rfl, (And.intro (Holds.rdf H477_ 12 rfl) (Holds.blk H477_ 12 rfl)), (Sub.trans' hs466_ (Holds.ro_at H477_ 0 rfl))⟩, ?_⟩
       refine A_ready (i := 18) (rs := []) (by kernel_rfl) ?_
       refine AllR.cons ?_ AllR.nil
       obtain ⟨R483_, hs484_, ⟨R485_, ha486_, hs487_⟩, H488_⟩ := Holds.gift H477_
       have hz_R_R483_ := Sub.trans' hs466_ hs484_
       have hr489_ : RS R483_ 1 (vS (some ⟨b457_, 0, none⟩) o.w_Key.size cp458_) (List.length (ints o.w_Key)) (bytesV (ints o.w_Key)) := (sl_RS ha486_ (Sub.rfl' _)).mono hs487_
       have H500_ := ((Holds.bring (Holds.bring (Holds.bring (Holds.bring (Holds.bring (Holds.bring (Holds.bring (Holds.bring (Holds.bring H488_ 3 rfl) 3 rfl) 11 rfl) 11 rfl) 11 rfl) 11 rfl) 11 rfl) 8 rfl) 8 rfl) :)
       refine A_op (ls' := #[true, true, true, true, true, true, true, true, true, true, true, true, true, true, true, true, true, true, true]) rfl (by kernel_rfl) (T_callG (al := [(vQ zb), (vI .i64 ((wOf o).iD)), (vS (some ⟨b457_, 0, none⟩) o.w_Key.size cp458_), (vS none 0 0), (vI .i64 ((wOf o).minRev))]) (pre := [cl zb 97 [(Value.map (some kb)), (Value.iface 183 (vQ tb)), (Value.map (some wb)), (Value.map (some ib))], mp Value.string kb KM, setsP (List.map Prod.fst PM) S, cl tb 185 [(vQ (rt sb W)), (vI .i64 cnt), (vQ sb)], tr sb sb W, clf sb 182 [(Value.nilIface), (Value.nilIface), (Value.nilIface), (Value.nilIface), (vP none), (vP none), (vP none), (vI .i64 0)], mp pn wb (aggm PM), mp (vI .i64) ib (idm PM)]) rfl (lcons rfl (lcons (congrArg (vI .i64) ((by first | rfl | omega | (simp; done) | (simp; omega)) : o.w_ID = (wOf o).iD)) (lcons rfl (lcons rfl (lcons (congrArg (vI .i64) ((by first | rfl | omega | (simp; done) | (simp; omega)) : o.w_MinRev = (wOf o).minRev)) rfl))))) cb42 (gzAdd R483_ zb kb tb sb wb ib cnt PM KM S W (some ⟨b457_, 0, none⟩) none o.w_Key.size cp458_ 0 0 (wOf o) (RS.set_ hr489_ (by first | rfl | (simp [GW.cells, GO.cells, GA.cells]; done)) (by first | rfl | omega | (simp; done) | (simp; omega))) ((.inl ⟨he469_, rfl⟩)) ((hG.mono hz_R_R483_)) (hcn) (hpl) (he30_) (hnd)) H500_ ?_)
       rintro R491_ v492_ p504_ w501_ hs490_ ⟨a493_, KM494_, S495_, W496_, cnt497_, rfl, rfl, he498_, he499_⟩ S503_ H502_
       have S505_ := Same.trans S481_ S503_
       have hz_R_R491_ := Sub.trans' hz_R_R483_ hs490_
       have hz_R467__R491_ := Sub.trans' hs484_ hs490_
       refine ⟨⟨Holds.rd H502_ 1 rfl, Holds.rd H502_ 9 rfl, Holds.rd H502_ 10 rfl, Holds.rd H502_ 11 rfl, (And.intro (Holds.rdf H502_ 6 rfl) (Holds.blk H502_ 6 rfl)), (Sub.trans' hz_R_R491_ (Holds.ro_at H502_ 0 rfl))⟩, ?_⟩
       refine A_done (by kernel_rfl) ?_
       refine (X_then (hK453_ _ _ ?_))
       refine C_reg ?_
       refine sv (v := (vQ b13_)) (by kernel_rfl) ?_
       refine S_list0 (T_store1 (v := (vB true)) rfl rfl z4 rfl H502_ 9 rfl (Nat.le_of_ble_eq_true (by rfl)) ?_)
       intro w506_ S508_ H507_
       have S509_ := Same.trans S505_ S508_
       refine wpList_nil (X_blkN (X_then (hK22_ _ _ ?_)))
       refine cR fun _ hK510_ => ?_
       refine sv (v := (vA #[(vB true), (vI .i64 0), (vS none 0 0), (vS none 0 0)])) (x_loadN (vs := [(vB true), (vI .i64 0), (vS none 0 0), (vS none 0 0)]) rfl underlying42 rfl z42 rfl (Rd.cells (Holds.rd H507_ 9 rfl) 0 rfl)) ?_
       refine S_list0 (T_storeN (vs := [(vB true), (vI .i64 0), (vS none 0 0), (vS none 0 0)]) rfl rfl z42 rfl (by simp [Value.oneCell']) H507_ 10 rfl (Nat.le_of_ble_eq_true (by rfl)) ?_)
       intro w511_ S513_ H512_
       have S514_ := Same.trans S509_ S513_
       refine wn (hK510_ _ _ ?_)
       refine C_ret ?_
       refine R_any (v := (vA #[(vB true), (vI .i64 0), (vS none 0 0), (vS none 0 0)])) (run_results1 rfl ⟨_, rfl, load_resN underlying42 rfl z42 rfl (vs := [(vB true), (vI .i64 0), (vS none 0 0), (vS none 0 0)]) (Holds.cl_cells H512_ 10 rfl 0 rfl)⟩) ?_
       have H515_ := Holds.pkF H512_ [0, 0, 0, 0, 0, 0, 0, 0, 0] 3
       exact ⟨R491_, _, _, rfl, hz_R_R491_, (.inr ⟨a493_, KM494_, S495_, W496_, cnt497_, rfl, rfl, (he30_), (he498_), (he499_)⟩), S514_, H515_⟩
      ·skip
       have S482_ := Same.trans S463_ S478_
       refine ⟨⟨Holds.rd H477_ 2 rfl, Holds.rd H477_ 5 rfl, Holds.rd H477_ 6 rfl, Holds.rd H477_ 7 rfl, (And.intro (Holds.rdf H477_ 12 rfl) (Holds.blk H477_ 12 rfl)), (Sub.trans' hs466_ (Holds.ro_at H477_ 0 rfl))⟩, ?_⟩
       refine A_ready (i := 18) (rs := []) (by kernel_rfl) ?_
       refine AllR.cons ?_ AllR.nil
       obtain ⟨R516_, hs517_, ⟨R518_, ha519_, hs520_⟩, H521_⟩ := Holds.gift H477_
       have hz_R_R516_ := Sub.trans' hs466_ hs517_
       have hr522_ : RS R516_ 1 (vS (some ⟨b457_, 0, none⟩) o.w_Key.size cp458_) (List.length (ints o.w_Key)) (bytesV (ints o.w_Key)) := (sl_RS ha519_ (Sub.rfl' _)).mono hs520_
       have H533_ := ((Holds.bring (Holds.bring (Holds.bring (Holds.bring (Holds.bring (Holds.bring (Holds.bring (Holds.bring (Holds.bring H521_ 3 rfl) 3 rfl) 11 rfl) 11 rfl) 11 rfl) 11 rfl) 11 rfl) 8 rfl) 8 rfl) :)
       refine A_op (ls' := #[true, true, true, true, true, true, true, true, true, true, true, true, true, true, true, true, true, true, true]) rfl (by kernel_rfl) (T_callG (al := [(vQ zb), (vI .i64 ((wOf o).iD)), (vS (some ⟨b457_, 0, none⟩) o.w_Key.size cp458_), (vS (some ea470_) em471_ ec472_), (vI .i64 ((wOf o).minRev))]) (pre := [cl zb 97 [(Value.map (some kb)), (Value.iface 183 (vQ tb)), (Value.map (some wb)), (Value.map (some ib))], mp Value.string kb KM, setsP (List.map Prod.fst PM) S, cl tb 185 [(vQ (rt sb W)), (vI .i64 cnt), (vQ sb)], tr sb sb W, clf sb 182 [(Value.nilIface), (Value.nilIface), (Value.nilIface), (Value.nilIface), (vP none), (vP none), (vP none), (vI .i64 0)], mp pn wb (aggm PM), mp (vI .i64) ib (idm PM)]) rfl (lcons rfl (lcons (congrArg (vI .i64) ((by first | rfl | omega | (simp; done) | (simp; omega)) : o.w_ID = (wOf o).iD)) (lcons rfl (lcons rfl (lcons (congrArg (vI .i64) ((by first | rfl | omega | (simp; done) | (simp; omega)) : o.w_MinRev = (wOf o).minRev)) rfl))))) cb42 (gzAdd R516_ zb kb tb sb wb ib cnt PM KM S W (some ⟨b457_, 0, none⟩) (some ea470_) o.w_Key.size cp458_ em471_ ec472_ (wOf o) (RS.set_ hr522_ (by first | rfl | (simp [GW.cells, GO.cells, GA.cells]; done)) (by first | rfl | omega | (simp; done) | (simp; omega))) ((.inr ⟨he473_, _, _, _, rfl, (he474_.mono hs517_)⟩)) ((hG.mono hz_R_R516_)) (hcn) (hpl) (he30_) (hnd)) H533_ ?_)
       rintro R524_ v525_ p537_ w534_ hs523_ ⟨a526_, KM527_, S528_, W529_, cnt530_, rfl, rfl, he531_, he532_⟩ S536_ H535_
       have S538_ := Same.trans S482_ S536_
       have hz_R_R524_ := Sub.trans' hz_R_R516_ hs523_
       have hz_R467__R524_ := Sub.trans' hs517_ hs523_
       refine ⟨⟨Holds.rd H535_ 1 rfl, Holds.rd H535_ 9 rfl, Holds.rd H535_ 10 rfl, Holds.rd H535_ 11 rfl, (And.intro (Holds.rdf H535_ 6 rfl) (Holds.blk H535_ 6 rfl)), (Sub.trans' hz_R_R524_ (Holds.ro_at H535_ 0 rfl))⟩, ?_⟩
       refine A_done (by kernel_rfl) ?_
       refine (X_then (hK453_ _ _ ?_))
       refine C_reg ?_
       refine sv (v := (vQ b13_)) (by kernel_rfl) ?_
       refine S_list0 (T_store1 (v := (vB true)) rfl rfl z4 rfl H535_ 9 rfl (Nat.le_of_ble_eq_true (by rfl)) ?_)
       intro w539_ S541_ H540_
       have S542_ := Same.trans S538_ S541_
       refine wpList_nil (X_blkN (X_then (hK22_ _ _ ?_)))
       refine cR fun _ hK543_ => ?_
       refine sv (v := (vA #[(vB true), (vI .i64 0), (vS none 0 0), (vS none 0 0)])) (x_loadN (vs := [(vB true), (vI .i64 0), (vS none 0 0), (vS none 0 0)]) rfl underlying42 rfl z42 rfl (Rd.cells (Holds.rd H540_ 9 rfl) 0 rfl)) ?_
       refine S_list0 (T_storeN (vs := [(vB true), (vI .i64 0), (vS none 0 0), (vS none 0 0)]) rfl rfl z42 rfl (by simp [Value.oneCell']) H540_ 10 rfl (Nat.le_of_ble_eq_true (by rfl)) ?_)
       intro w544_ S546_ H545_
       have S547_ := Same.trans S542_ S546_
       refine wn (hK543_ _ _ ?_)
       refine C_ret ?_
       refine R_any (v := (vA #[(vB true), (vI .i64 0), (vS none 0 0), (vS none 0 0)])) (run_results1 rfl ⟨_, rfl, load_resN underlying42 rfl z42 rfl (vs := [(vB true), (vI .i64 0), (vS none 0 0), (vS none 0 0)]) (Holds.cl_cells H545_ 10 rfl 0 rfl)⟩) ?_
       have H548_ := Holds.pkF H545_ [0, 0, 0, 0, 0, 0, 0, 0, 0] 3
       exact ⟨R524_, _, _, rfl, hz_R_R524_, (.inr ⟨a526_, KM527_, S528_, W529_, cnt530_, rfl, rfl, (he30_), (he531_), (he532_)⟩), S547_, H548_⟩
     refine AllR.cons ?_ AllR.nil
     refine A_op (ls' := #[true, true, true, true, true, true, true, false, true, true, true, true, true, true, true, true, true, true, false]) rfl (by kernel_rfl) (T_callG (al := [(Value.string o.w_End), (vB o.w_HasEnd)]) (pre := []) rfl rfl cb43 (gEnd R o.w_End o.w_HasEnd (hz)) H454_ ?_)
     rintro R550_ v551_ p561_ w558_ hs549_ hq562_ S560_ H559_
     rcases hq562_ with ⟨rfl, rfl, he552_⟩ | ⟨ea553_, em554_, ec555_, rfl, rfl, he556_, he557_⟩
     ·skip
      have S563_ := Same.trans (Same.trans S51_ (Same.drew _)) S560_
      refine ⟨⟨Holds.rd H559_ 1 rfl, Holds.rd H559_ 4 rfl, Holds.rd H559_ 5 rfl, Holds.rd H559_ 6 rfl, (And.intro (Holds.rdf H559_ 11 rfl) (Holds.blk H559_ 11 rfl)), (Sub.trans' hs549_ (Holds.ro_at H559_ 0 rfl))⟩, ?_⟩
      refine A_ready (i := 7) (rs := []) (by kernel_rfl) ?_
      refine AllR.cons ?_ AllR.nil
      refine A_op (ls' := #[true, true, true, true, true, true, true, true, true, true, true, true, true, true, true, true, true, true, false]) rfl (by kernel_rfl) (T_s2b rfl underlying9 underlying101 underlying5 H559_ ?_)
      intro b565_ cp566_ w567_ S569_ hc570_ H568_
      have S571_ := Same.trans S563_ S569_
      have H572_ := Holds.resl H568_ 0 rfl (byteCells_bytesV _ : byteCells o.w_Key = bytesV (ints o.w_Key)) rfl
      have H573_ := Holds.resl H572_ 0 rfl (rfl : bytesV (ints o.w_Key) = bytesV (ints o.w_Key)) ((ints_length _).symm : o.w_Key.size = (List.length (ints o.w_Key)))
      refine ⟨⟨Holds.rd H573_ 2 rfl, Holds.rd H573_ 5 rfl, Holds.rd H573_ 6 rfl, Holds.rd H573_ 7 rfl, (And.intro (Holds.rdf H573_ 12 rfl) (Holds.blk H573_ 12 rfl)), (Sub.trans' hs549_ (Holds.ro_at H573_ 1 rfl))⟩, ?_⟩
      refine A_ready (i := 18) (rs := []) (by kernel_rfl) ?_
      refine AllR.cons ?_ AllR.nil
      have H574_ := ((Holds.bring H573_ 1 rfl) :)
      obtain ⟨R575_, hs576_, ⟨R577_, ha578_, hs579_⟩, H580_⟩ := Holds.gift H574_
      have hz_R_R575_ := Sub.trans' hs549_ hs576_
      have hr581_ : RS R575_ 1 (vS (some ⟨b565_, 0, none⟩) o.w_Key.size cp566_) (List.length (ints o.w_Key)) (bytesV (ints o.w_Key)) := (sl_RS ha578_ (Sub.rfl' _)).mono hs579_
      have H592_ := ((Holds.bring (Holds.bring (Holds.bring (Holds.bring (Holds.bring (Holds.bring (Holds.bring (Holds.bring (Holds.bring H580_ 3 rfl) 3 rfl) 11 rfl) 11 rfl) 11 rfl) 11 rfl) 11 rfl) 8 rfl) 8 rfl) :)
      refine A_op (ls' := #[true, true, true, true, true, true, true, true, true, true, true, true, true, true, true, true, true, true, true]) rfl (by kernel_rfl) (T_callG (al := [(vQ zb), (vI .i64 ((wOf o).iD)), (vS (some ⟨b565_, 0, none⟩) o.w_Key.size cp566_), (vS none 0 0), (vI .i64 ((wOf o).minRev))]) (pre := [cl zb 97 [(Value.map (some kb)), (Value.iface 183 (vQ tb)), (Value.map (some wb)), (Value.map (some ib))], mp Value.string kb KM, setsP (List.map Prod.fst PM) S, cl tb 185 [(vQ (rt sb W)), (vI .i64 cnt), (vQ sb)], tr sb sb W, clf sb 182 [(Value.nilIface), (Value.nilIface), (Value.nilIface), (Value.nilIface), (vP none), (vP none), (vP none), (vI .i64 0)], mp pn wb (aggm PM), mp (vI .i64) ib (idm PM)]) rfl (lcons rfl (lcons (congrArg (vI .i64) ((by first | rfl | omega | (simp; done) | (simp; omega)) : o.w_ID = (wOf o).iD)) (lcons rfl (lcons rfl (lcons (congrArg (vI .i64) ((by first | rfl | omega | (simp; done) | (simp; omega)) : o.w_MinRev = (wOf o).minRev)) rfl))))) cb42 (gzAdd R575_ zb kb tb sb wb ib cnt PM KM S W (some ⟨b565_, 0, none⟩) none o.w_Key.size cp566_ 0 0 (wOf o) (RS.set_ hr581_ (by first | rfl | (simp [GW.cells, GO.cells, GA.cells]; done)) (by first | rfl | omega | (simp; done) | (simp; omega))) ((.inl ⟨he552_, rfl⟩)) ((hG.mono hz_R_R575_)) (hcn) (hpl) (he30_) (hnd)) H592_ ?_)
      rintro R583_ v584_ p596_ w593_ hs582_ ⟨a585_, KM586_, S587_, W588_, cnt589_, rfl, rfl, he590_, he591_⟩ S595_ H594_
      have S597_ := Same.trans S571_ S595_
      have hz_R_R583_ := Sub.trans' hz_R_R575_ hs582_
      have hz_R550__R583_ := Sub.trans' hs576_ hs582_
      refine ⟨⟨Holds.rd H594_ 1 rfl, Holds.rd H594_ 9 rfl, Holds.rd H594_ 10 rfl, Holds.rd H594_ 11 rfl, (And.intro (Holds.rdf H594_ 6 rfl) (Holds.blk H594_ 6 rfl)), (Sub.trans' hz_R_R583_ (Holds.ro_at H594_ 0 rfl))⟩, ?_⟩
      refine A_done (by kernel_rfl) ?_
      refine (X_then (hK453_ _ _ ?_))
      refine C_reg ?_
      refine sv (v := (vQ b13_)) (by kernel_rfl) ?_
      refine S_list0 (T_store1 (v := (vB true)) rfl rfl z4 rfl H594_ 9 rfl (Nat.le_of_ble_eq_true (by rfl)) ?_)
      intro w598_ S600_ H599_
      have S601_ := Same.trans S597_ S600_
      refine wpList_nil (X_blkN (X_then (hK22_ _ _ ?_)))
      refine cR fun _ hK602_ => ?_
      refine sv (v := (vA #[(vB true), (vI .i64 0), (vS none 0 0), (vS none 0 0)])) (x_loadN (vs := [(vB true), (vI .i64 0), (vS none 0 0), (vS none 0 0)]) rfl underlying42 rfl z42 rfl (Rd.cells (Holds.rd H599_ 9 rfl) 0 rfl)) ?_
      refine S_list0 (T_storeN (vs := [(vB true), (vI .i64 0), (vS none 0 0), (vS none 0 0)]) rfl rfl z42 rfl (by simp [Value.oneCell']) H599_ 10 rfl (Nat.le_of_ble_eq_true (by rfl)) ?_)
      intro w603_ S605_ H604_
      have S606_ := Same.trans S601_ S605_
      refine wn (hK602_ _ _ ?_)
      refine C_ret ?_
      refine R_any (v := (vA #[(vB true), (vI .i64 0), (vS none 0 0), (vS none 0 0)])) (run_results1 rfl ⟨_, rfl, load_resN underlying42 rfl z42 rfl (vs := [(vB true), (vI .i64 0), (vS none 0 0), (vS none 0 0)]) (Holds.cl_cells H604_ 10 rfl 0 rfl)⟩) ?_
      have H607_ := Holds.pkF H604_ [0, 0, 0, 0, 0, 0, 0, 0, 0] 3
      exact ⟨R583_, _, _, rfl, hz_R_R583_, (.inr ⟨a585_, KM586_, S587_, W588_, cnt589_, rfl, rfl, (he30_), (he590_), (he591_)⟩), S606_, H607_⟩
     ·skip
      have S564_ := Same.trans (Same.trans S51_ (Same.drew _)) S560_
      refine ⟨⟨Holds.rd H559_ 1 rfl, Holds.rd H559_ 4 rfl, Holds.rd H559_ 5 rfl, Holds.rd H559_ 6 rfl, (And.intro (Holds.rdf H559_ 11 rfl) (Holds.blk H559_ 11 rfl)), (Sub.trans' hs549_ (Holds.ro_at H559_ 0 rfl))⟩, ?_⟩
      refine A_ready (i := 7) (rs := []) (by kernel_rfl) ?_
      refine AllR.cons ?_ AllR.nil
      refine A_op (ls' := #[true, true, true, true, true, true, true, true, true, true, true, true, true, true, true, true, true, true, false]) rfl (by kernel_rfl) (T_s2b rfl underlying9 underlying101 underlying5 H559_ ?_)
      intro b608_ cp609_ w610_ S612_ hc613_ H611_
      have S614_ := Same.trans S564_ S612_
      have H615_ := Holds.resl H611_ 0 rfl (byteCells_bytesV _ : byteCells o.w_Key = bytesV (ints o.w_Key)) rfl
      have H616_ := Holds.resl H615_ 0 rfl (rfl : bytesV (ints o.w_Key) = bytesV (ints o.w_Key)) ((ints_length _).symm : o.w_Key.size = (List.length (ints o.w_Key)))
      refine ⟨⟨Holds.rd H616_ 2 rfl, Holds.rd H616_ 5 rfl, Holds.rd H616_ 6 rfl, Holds.rd H616_ 7 rfl, (And.intro (Holds.rdf H616_ 12 rfl) (Holds.blk H616_ 12 rfl)), (Sub.trans' hs549_ (Holds.ro_at H616_ 1 rfl))⟩, ?_⟩
      refine A_ready (i := 18) (rs := []) (by kernel_rfl) ?_
      refine AllR.cons ?_ AllR.nil
      have H617_ := ((Holds.bring H616_ 1 rfl) :)
      obtain ⟨R618_, hs619_, ⟨R620_, ha621_, hs622_⟩, H623_⟩ := Holds.gift H617_
      have hz_R_R618_ := Sub.trans' hs549_ hs619_
      have hr624_ : RS R618_ 1 (vS (some ⟨b608_, 0, none⟩) o.w_Key.size cp609_) (List.length (ints o.w_Key)) (bytesV (ints o.w_Key)) := (sl_RS ha621_ (Sub.rfl' _)).mono hs622_
      have H635_ := ((Holds.bring (Holds.bring (Holds.bring (Holds.bring (Holds.bring (Holds.bring (Holds.bring (Holds.bring (Holds.bring H623_ 3 rfl) 3 rfl) 11 rfl) 11 rfl) 11 rfl) 11 rfl) 11 rfl) 8 rfl) 8 rfl) :)
      refine A_op (ls' := #[true, true, true, true, true, true, true, true, true, true, true, true, true, true, true, true, true, true, true]) rfl (by kernel_rfl) (T_callG (al := [(vQ zb), (vI .i64 ((wOf o).iD)), (vS (some ⟨b608_, 0, none⟩) o.w_Key.size cp609_), (vS (some ea553_) em554_ ec555_), (vI .i64 ((wOf o).minRev))]) (pre := [cl zb 97 [(Value.map (some kb)), (Value.iface 183 (vQ tb)), (Value.map (some wb)), (Value.map (some ib))], mp Value.string kb KM, setsP (List.map Prod.fst PM) S, cl tb 185 [(vQ (rt sb W)), (vI .i64 cnt), (vQ sb)], tr sb sb W, clf sb 182 [(Value.nilIface), (Value.nilIface), (Value.nilIface), (Value.nilIface), (vP none), (vP none), (vP none), (vI .i64 0)], mp pn wb (aggm PM), mp (vI .i64) ib (idm PM)]) rfl (lcons rfl (lcons (congrArg (vI .i64) ((by first | rfl | omega | (simp; done) | (simp; omega)) : o.w_ID = (wOf o).iD)) (lcons rfl (lcons rfl (lcons (congrArg (vI .i64) ((by first | rfl | omega | (simp; done) | (simp; omega)) : o.w_MinRev = (wOf o).minRev)) rfl))))) cb42 (gzAdd R618_ zb kb tb sb wb ib cnt PM KM S W (some ⟨b608_, 0, none⟩) (some ea553_) o.w_Key.size cp609_ em554_ ec555_ (wOf o) (RS.set_ hr624_ (by first | rfl | (simp [GW.cells, GO.cells, GA.cells]; done)) (by first | rfl | omega | (simp; done) | (simp; omega))) ((.inr ⟨he556_, _, _, _, rfl, (he557_.mono hs619_)⟩)) ((hG.mono hz_R_R618_)) (hcn) (hpl) (he30_) (hnd)) H635_ ?_)
      rintro R626_ v627_ p639_ w636_ hs625_ ⟨a628_, KM629_, S630_, W631_, cnt632_, rfl, rfl, he633_, he634_⟩ S638_ H637_
      have S640_ := Same.trans S614_ S638_
      have hz_R_R626_ := Sub.trans' hz_R_R618_ hs625_
      have hz_R550__R626_ := Sub.trans' hs619_ hs625_
      refine ⟨⟨Holds.rd H637_ 1 rfl, Holds.rd H637_ 9 rfl, Holds.rd H637_ 10 rfl, Holds.rd H637_ 11 rfl, (And.intro (Holds.rdf H637_ 6 rfl) (Holds.blk H637_ 6 rfl)), (Sub.trans' hz_R_R626_ (Holds.ro_at H637_ 0 rfl))⟩, ?_⟩
      refine A_done (by kernel_rfl) ?_
      refine (X_then (hK453_ _ _ ?_))
      refine C_reg ?_
      refine sv (v := (vQ b13_)) (by kernel_rfl) ?_
      refine S_list0 (T_store1 (v := (vB true)) rfl rfl z4 rfl H637_ 9 rfl (Nat.le_of_ble_eq_true (by rfl)) ?_)
      intro w641_ S643_ H642_
      have S644_ := Same.trans S640_ S643_
      refine wpList_nil (X_blkN (X_then (hK22_ _ _ ?_)))
      refine cR fun _ hK645_ => ?_
      refine sv (v := (vA #[(vB true), (vI .i64 0), (vS none 0 0), (vS none 0 0)])) (x_loadN (vs := [(vB true), (vI .i64 0), (vS none 0 0), (vS none 0 0)]) rfl underlying42 rfl z42 rfl (Rd.cells (Holds.rd H642_ 9 rfl) 0 rfl)) ?_
      refine S_list0 (T_storeN (vs := [(vB true), (vI .i64 0), (vS none 0 0), (vS none 0 0)]) rfl rfl z42 rfl (by simp [Value.oneCell']) H642_ 10 rfl (Nat.le_of_ble_eq_true (by rfl)) ?_)
      intro w646_ S648_ H647_
      have S649_ := Same.trans S644_ S648_
      refine wn (hK645_ _ _ ?_)
      refine C_ret ?_
      refine R_any (v := (vA #[(vB true), (vI .i64 0), (vS none 0 0), (vS none 0 0)])) (run_results1 rfl ⟨_, rfl, load_resN underlying42 rfl z42 rfl (vs := [(vB true), (vI .i64 0), (vS none 0 0), (vS none 0 0)]) (Holds.cl_cells H647_ 10 rfl 0 rfl)⟩) ?_
      have H650_ := Holds.pkF H647_ [0, 0, 0, 0, 0, 0, 0, 0, 0] 3
      exact ⟨R626_, _, _, rfl, hz_R_R626_, (.inr ⟨a628_, KM629_, S630_, W631_, cnt632_, rfl, rfl, (he30_), (he633_), (he634_)⟩), S649_, H650_⟩
 ·have c25_fp : ¬ (o.kind = 1) := of_decide_eq_false c25_f
  omega
end Go.Proofs.YtlnihndjepjagaaGreat
set_option linter.unusedVariables false
set_option linter.unusedSimpArgs false
namespace Go.Proofs.YtlnihndjepjagaaGreat
open Go Go.RowKit Gw Tryz
open Go.Value renaming int → vI, bool → vB, slice → vS, pointer → vP, agg → vA, tuple → vT

end Go.Proofs.YtlnihndjepjagaaGreat
set_option linter.unusedVariables false
set_option linter.unusedSimpArgs false
namespace Go.Proofs.YtlnihndjepjagaaGreat
open Go Go.RowKit Gw Tryz
open Go.Value renaming int → vI, bool → vB, slice → vS, pointer → vP, agg → vA, tuple → vT

theorem TriG.mono {P : Program} {f : FuncId} {args : Array Value} {R : HP} {pre : List SP} {Q Q' : HP → Value → List SP → Prop} (h : TriG P f args R pre Q) (hq : ∀ R' v l, Q R' v l → Q' R' v l) : TriG P f args R pre Q' := fun w F hh =>
  (h w F hh).mono fun _ _ ⟨R', v, post, e, s, q, sm, k⟩ => ⟨R', v, post, e, s, hq _ _ _ q, sm, k⟩
def OpC (PM : List (Nat × GW)) (o : GO) : Prop := (o.kind = 1 ∧ WProper (wOf o) ∧ o.w_End.size ≤ 2147483647) ∨ (o.kind = 3 ∧ o.key.size ≠ 0 ∧ o.key.size ≤ 1000000000000000) ∨ (o.kind = 4 ∧ ∃ a x, PM = [(a, x)] ∧ x.hasEnd = false ∧ o.key = x.key ∧ x.key.size ≤ 1000000000000000)


/-! ### Operations played: who is in the group -/
theorem gtake {α : Type} {l : List α} {k : Nat} {x : α} (h : l[k]? = some x) : l.take (k + 1) = l.take k ++ [x] := by rw [List.take_add_one, h]; rfl
def addW (M : List GW) (w : GW) : List GW := if M.any (fun x => decide (x.iD = w.iD)) = true then M else M ++ [w]
def gMs (L : List GO) : List GW := L.foldl (fun M o => if o.kind = 1 then addW M (wOf o) else M) []
def OpL (L : List GO) (k : Nat) (o : GO) : Prop := (o.kind = 1 ∧ WProper (wOf o) ∧ o.w_End.size ≤ 2147483647) ∨ (o.kind = 3 ∧ o.key.size ≠ 0 ∧ o.key.size ≤ 1000000000000000) ∨ (o.kind = 4 ∧ ∃ x, gMs (L.take k) = [x] ∧ x.hasEnd = false ∧ o.key = x.key ∧ x.key.size ≤ 1000000000000000)
theorem OpL.c {L : List GO} {k : Nat} {o : GO} {PM : List (Nat × GW)} (h : OpL L k o) (hm : gws PM = gMs (L.take k)) : OpC PM o := by
  rcases h with h | h | ⟨h1, x, h2, h3⟩
  · exact .inl h
  · exact .inr (.inl h)
  · refine .inr (.inr ⟨h1, ?_⟩)
    rw [h2] at hm
    match PM, hm with
    | [(a, y)], hm =>
      have : y = x := by simpa [gws] using hm
      subst this
      exact ⟨a, y, rfl, h3⟩
def AnsG (R : HP) (M : List GW) (o : GO) (a : GA) : Prop := (o.kind = 3 → a.oK = M.any (fun x => seesB x o.key) ∧ a.n = 0 ∧ a.iDs = .slice none 0 0 ∧ a.told = .slice none 0 0) ∧ (o.kind = 4 → ∃ x, M = [x] ∧ RS R 1 a.iDs (List.length [x.iD]) ([x.iD].map (vI .i64)))
theorem AnsG.mono {R R' : HP} (s : Sub R R') {M : List GW} {o : GO} {a : GA} (h : AnsG R M o a) : AnsG R' M o a := ⟨h.1, fun h4 => by obtain ⟨x, h1, h2⟩ := h.2 h4; exact ⟨x, h1, h2.mono s⟩⟩
theorem AnsG.other {R : HP} {M : List GW} {o : GO} {a : GA} (h : o.kind = 1) : AnsG R M o a := ⟨fun h' => by omega, fun h' => by omega⟩
theorem AnsG.has {R : HP} {PM : List (Nat × GW)} {M : List GW} {o : GO} (h : o.kind = 3) (hm : gws PM = M) : AnsG R M o ⟨(gws PM).any (fun x => seesB x o.key), 0, .slice none 0 0, .slice none 0 0⟩ := ⟨fun _ => ⟨by rw [hm], rfl, rfl, rfl⟩, fun h' => by omega⟩
theorem AnsG.key {R : HP} {PM : List (Nat × GW)} {M : List GW} {o : GO} {a : Nat} {x : GW} {v t : Value} {b : Bool} {n : Int} (h : o.kind = 4) (hm : gws PM = M) (hp : PM = [(a, x)]) (hr : RS R 1 v (List.length [x.iD]) ([x.iD].map (vI .i64))) : AnsG R M o ⟨b, n, v, t⟩ :=
  ⟨fun h' => by omega, fun _ => ⟨x, by rw [← hm, hp]; rfl, hr⟩⟩
def AnsL (R : HP) (L : List GO) (A : List GA) : Prop := ∀ i o a, L[i]? = some o → A[i]? = some a → AnsG R (gMs (L.take i)) o a
theorem AnsL.snoc {R R' : HP} {L : List GO} {A : List GA} {k : Nat} {o : GO} {a : GA} (h : AnsL R L A) (s : Sub R R') (hk : A.length = k) (ho : L[k]? = some o) (ha : AnsG R' (gMs (L.take k)) o a) : AnsL R' L (A ++ [a]) := fun i o' a' h1 h2 => by
  by_cases hi : i < A.length
  · rw [List.getElem?_append_left hi] at h2
    exact (h i o' a' h1 h2).mono s
  · have hi2 : i = k := by
      have := (List.getElem?_eq_some_iff.1 h2).1
      rw [List.length_append] at this; simp at this; omega
    subst hi2
    rw [List.getElem?_append_right (by omega), hk, Nat.sub_self] at h2
    rw [ho] at h1
    cases h1
    simp at h2
    subst h2
    exact ha
theorem OpL.w {L : List GO} {k : Nat} {o : GO} (h : OpL L k o) (h1 : o.kind = 1) : WProper (wOf o) := by
  rcases h with h | h | h
  · exact h.2.1
  · omega
  · omega

end Go.Proofs.YtlnihndjepjagaaGreat
set_option linter.unusedVariables false
set_option linter.unusedSimpArgs false
namespace Go.Proofs.YtlnihndjepjagaaGreat
open Go Go.RowKit Gw Tryz
open Go.Value renaming int → vI, bool → vB, slice → vS, pointer → vP, agg → vA, tuple → vT

end Go.Proofs.YtlnihndjepjagaaGreat
set_option linter.unusedVariables false
set_option linter.unusedSimpArgs false
namespace Go.Proofs.YtlnihndjepjagaaGreat
open Go Go.RowKit Gw
theorem bytesV_app (a b : List Int) : bytesV a ++ bytesV b = bytesV (a ++ b) := by simp [bytesV]
def vint (n : Nat) : List Int := if h : n < 128 then [IntKind.u8.wrap n] else ior .u8 (IntKind.u8.wrap n) 128 :: vint (n / 128)
termination_by n
decreasing_by omega
theorem vint_lt {n : Nat} (h : n < 128) : vint n = [IntKind.u8.wrap n] := by rw [vint]; rw [dif_pos h]
theorem vint_ge {n : Nat} (h : ¬ n < 128) : vint n = ior .u8 (IntKind.u8.wrap n) 128 :: vint (n / 128) := by rw [vint]; rw [dif_neg h]
theorem vint_len (k : Nat) : ∀ (n : Nat), n < 128 ^ (k + 1) → (vint n).length ≤ k + 1 := by
  induction k with
  | zero => intro n h; rw [vint_lt (by simpa using h)]; simp
  | succ k ih =>
    intro n h
    by_cases h1 : n < 128
    · rw [vint_lt h1]; simp
    · rw [vint_ge h1]
      have := ih (n / 128) (by rw [Nat.div_lt_iff_lt_mul (by omega)]; rw [Nat.pow_succ] at h; exact h)
      simp; omega
theorem vint_len10 {n : Nat} (h : n < 18446744073709551616) : (vint n).length ≤ 10 := vint_len 9 n (Nat.lt_trans h (by decide))
def vi (x : Int) : List Int := vint (IntKind.u64.wrap x).toNat
theorem wrap_u64 (x : Int) : IntKind.u64.wrap x = x % 18446744073709551616 := by
  have e1 : (2 : Int) ^ 64 = 18446744073709551616 := by decide
  simp [IntKind.wrap, IntKind.bits, IntKind.signed, e1]
theorem wrap_u8 (x : Int) : IntKind.u8.wrap x = x % 256 := by
  have e1 : (2 : Int) ^ 8 = 256 := by decide
  simp [IntKind.wrap, IntKind.bits, IntKind.signed, e1]
theorem u64_range (x : Int) : 0 ≤ IntKind.u64.wrap x ∧ IntKind.u64.wrap x < 18446744073709551616 := by rw [wrap_u64]; omega
theorem vi_len (x : Int) : (vi x).length ≤ 10 := by
  have := u64_range x
  exact vint_len10 (by omega)
/-! ### The sum -/
/-! ### A record and its frame -/
end Go.Proofs.YtlnihndjepjagaaGreat
set_option linter.unusedVariables false
set_option linter.unusedSimpArgs false
namespace Go.Proofs.YtlnihndjepjagaaGreat
open Go Go.RowKit Gw Tryz
open Go.Value renaming int → vI, bool → vB, slice → vS, pointer → vP, agg → vA, tuple → vT

set_option maxHeartbeats 1600000 in
theorem wVint (R : HP) (v : Value) (ns : List Int) (n : Nat) (q0 : n < 18446744073709551616) (q1 : ns.length ≤ 100000000) :
    Tri Tryz.prog 145 #[v, (vI .u64 (n : Int))] R [sl 5 1 v (List.length ns) (bytesV ns)] (fun v__ post__ => ∃ (v' : Value), v__ = v' ∧ post__ = [sl 5 1 v' (List.length (ns ++ vint n)) (bytesV (ns ++ vint n))]) := by
 refine Tri.into (n := 20) (al := [v, (vI .u64 (n : Int))]) func145 rfl ntmps145 rfl rfl fun w F H => ?_
 refine cR fun _ hK1_ => ?_
 refine sv (v := (vS none 0 0)) (x_assign rfl) ?_
 refine wn (hK1_ _ _ ?_)
 refine C_seq (fun _ hK2_ => ?_)
 refine C_block ?_
 refine C_loop (γ := Value × (List Int) × Nat) (fun x__ a__ w1__ => match x__ with | ⟨v1, ns1, n1⟩ => ∃ h : Env, a__ = mkA 20 (upd (upd (upd h 0 v1) 1 (vI .u64 (n1 : Int))) 4 (vS none 0 0)) [] ∧ Holds w1__ (ro R :: sl 5 1 v1 (List.length ns1) (bytesV ns1) :: F) ∧ Same w w1__ ∧ (ns1 ++ vint n1 = ns ++ vint n) ∧ (n1 ≤ n)) (fun x__ => match x__ with | ⟨v1, ns1, n1⟩ => n1) (⟨v, ns, n⟩) ⟨_, congrArg (fun e => mkA 20 e []) (ch (ch (ch rfl rfl) rfl) rfl), H, (Same.refl w), (rfl), (by first | assumption | omega | exact rfl)⟩ ?_
 rintro ⟨v1, ns1, n1⟩ _ w3_ ⟨h, rfl, H4_, S5_, hinv, hn1⟩
 have hl_ := congrArg List.length hinv
 simp only [List.length_append] at hl_
 have hvl_ := vint_len10 (n := n) (by omega)
 refine C_seq (fun _ hK6_ => ?_)
 refine cR fun _ hK7_ => ?_
 refine sm (vI .u64 (n1 : Int)) ?_
 refine sv (v := (vB (decide (128 ≤ (n1 : Int))))) (x_bin rfl rfl rfl) ?_
 refine wn (hK7_ _ _ ?_)
 refine C_cond (b := decide (128 ≤ (n1 : Int))) rfl (fun c8_t => ?_) (fun c8_f => ?_)
 ·have c8_tp : 128 ≤ (n1 : Int) := of_decide_eq_true c8_t
  refine C_skip (X_then (hK6_ _ _ ?_))
  refine C_block ?_
  refine cR fun _ hK9_ => ?_
  refine sv (v := v1) (x_move rfl) ?_
  refine sm (vI .u64 (n1 : Int)) ?_
  refine sv (v := (vI .u8 (IntKind.u8.wrap (n1 : Int)))) (x_convI rfl underlying209 underlying5 rfl) ?_
  refine sv (v := (vI .u8 (ior .u8 (IntKind.u8.wrap (n1 : Int)) 128))) (x_bin rfl rfl rfl) ?_
  refine S_list (T_new (obj := .cells #[(vI .u8 (ior .u8 (IntKind.u8.wrap (n1 : Int)) 128))] 5) (f := fun b__ => .slice (some ⟨b__, 0, none⟩) 1 1) (A := fun b__ => cl b__ 5 [(vI .u8 (ior .u8 (IntKind.u8.wrap (n1 : Int)) 128))]) (by kernel_rfl) (fun l h => h.alloc _ _) H4_ ?_)
  intro b10_ w11_ S13_ H12_
  have S14_ := Same.trans S5_ S13_
  refine S_list (T_append rfl rfl underlying101 z5 rfl (by decide) H12_ 2 rfl (Holds.cl_src H12_ 0 rfl underlying101 (by simp [Value.oneCell']) rfl) (by first | omega | (simp only [List.length_append, List.length_cons, List.length_nil]; omega)) ?_)
  intro v15_ w16_ S18_ H17_
  have S19_ := Same.trans S14_ S18_
  have H20_ := Holds.resl H17_ 2 rfl (by simp [bytesV] : (bytesV ns1) ++ [(vI .u8 (ior .u8 (IntKind.u8.wrap (n1 : Int)) 128))] = bytesV (ns1 ++ [(ior .u8 (IntKind.u8.wrap (n1 : Int)) 128)])) (by first | (simp; done) | (simp; omega) | (have := RS.blen trivial; simp; omega) : (List.length ns1) + 1 = (List.length (ns1 ++ [(ior .u8 (IntKind.u8.wrap (n1 : Int)) 128)])))
  refine sv (v := v15_) (x_assign rfl) ?_
  refine wn (hK9_ _ _ ?_)
  refine C_reg ?_
  refine sm (vI .u64 (n1 : Int)) ?_
  refine sv (v := (vI .u64 ((n1 : Int) / 128))) (x_shr rfl rfl (by omega) (shrN (by decide) (by decide))) ?_
  refine sv (v := (vI .u64 ((n1 : Int) / 128))) (x_assign rfl) ?_
  refine wpList_nil (X_blkN (X_then ?_))
  have H21_ := Holds.resl H20_ 2 rfl ((by first | rfl | (simp [GW.cells, GO.cells, GA.cells]; done)) : bytesV (ns1 ++ [(ior .u8 (IntKind.u8.wrap (n1 : Int)) 128)]) = bytesV (ns1 ++ [ior .u8 (IntKind.u8.wrap (n1 : Int)) 128])) ((by first | rfl | omega | (simp; done) | (simp; omega)) : (List.length (ns1 ++ [(ior .u8 (IntKind.u8.wrap (n1 : Int)) 128)])) = (List.length (ns1 ++ [ior .u8 (IntKind.u8.wrap (n1 : Int)) 128])))
  have H22_ := Holds.pkF H21_ [1, 1] 1
  exact ⟨⟨v15_, ns1 ++ [ior .u8 (IntKind.u8.wrap (n1 : Int)) 128], n1 / 128⟩, ⟨_, congrArg (fun e => mkA 20 e []) (ch (ch (ch rfl rfl) (congrArg (vI .u64) ((by omega) : (n1 : Int) / 128 = ((n1 / 128 : Nat) : Int)))) rfl), H22_, S19_, (by rw [← hinv, vint_ge (by omega : ¬ n1 < 128)]; simp), (Nat.le_trans (Nat.div_le_self _ _) hn1)⟩, by first | omega | (dsimp only; omega) | (simp; omega)⟩
 ·have c8_fp : ¬ (128 ≤ (n1 : Int)) := of_decide_eq_false c8_f
  refine C_exit (X_thenX (X_thenX (X_blkHit ?_)))
  refine (X_then (hK2_ _ _ ?_))
  refine cR fun _ hK23_ => ?_
  refine sv (v := v1) (x_move rfl) ?_
  refine sm (vI .u64 (n1 : Int)) ?_
  refine sv (v := (vI .u8 (IntKind.u8.wrap (n1 : Int)))) (x_convI rfl underlying209 underlying5 rfl) ?_
  refine S_list (T_new (obj := .cells #[(vI .u8 (IntKind.u8.wrap (n1 : Int)))] 5) (f := fun b__ => .slice (some ⟨b__, 0, none⟩) 1 1) (A := fun b__ => cl b__ 5 [(vI .u8 (IntKind.u8.wrap (n1 : Int)))]) (by kernel_rfl) (fun l h => h.alloc _ _) H4_ ?_)
  intro b24_ w25_ S27_ H26_
  have S28_ := Same.trans S5_ S27_
  refine S_list (T_append rfl rfl underlying101 z5 rfl (by decide) H26_ 2 rfl (Holds.cl_src H26_ 0 rfl underlying101 (by simp [Value.oneCell']) rfl) (by first | omega | (simp only [List.length_append, List.length_cons, List.length_nil]; omega)) ?_)
  intro v29_ w30_ S32_ H31_
  have S33_ := Same.trans S28_ S32_
  have H34_ := Holds.resl H31_ 2 rfl (by simp [bytesV] : (bytesV ns1) ++ [(vI .u8 (IntKind.u8.wrap (n1 : Int)))] = bytesV (ns1 ++ [(IntKind.u8.wrap (n1 : Int))])) (by first | (simp; done) | (simp; omega) | (have := RS.blen trivial; simp; omega) : (List.length ns1) + 1 = (List.length (ns1 ++ [(IntKind.u8.wrap (n1 : Int))])))
  refine sv (v := v29_) (x_assign rfl) ?_
  refine wn (hK23_ _ _ ?_)
  refine C_ret ?_
  refine R_any (v := v29_) (run_results1 rfl rfl) ?_
  have H35_ := Holds.resl H34_ 2 rfl (by rw [← hinv, vint_lt (by omega : n1 < 128)] : bytesV (ns1 ++ [(IntKind.u8.wrap (n1 : Int))]) = bytesV (ns ++ vint n)) (by rw [← hinv, vint_lt (by omega : n1 < 128)] : (List.length (ns1 ++ [(IntKind.u8.wrap (n1 : Int))])) = (List.length (ns ++ vint n)))
  have H36_ := Holds.pkF H35_ [1, 1] 1
  exact ⟨_, _, rfl, ⟨v29_, rfl, rfl⟩, S33_, H36_⟩
end Go.Proofs.YtlnihndjepjagaaGreat
set_option linter.unusedVariables false
set_option linter.unusedSimpArgs false
namespace Go.Proofs.YtlnihndjepjagaaGreat
open Go Go.RowKit Gw
def be8 (x : Int) : List Int := [IntKind.u8.wrap (IntKind.u64.wrap x / 72057594037927936), IntKind.u8.wrap (IntKind.u64.wrap x / 281474976710656), IntKind.u8.wrap (IntKind.u64.wrap x / 1099511627776), IntKind.u8.wrap (IntKind.u64.wrap x / 4294967296), IntKind.u8.wrap (IntKind.u64.wrap x / 16777216), IntKind.u8.wrap (IntKind.u64.wrap x / 65536), IntKind.u8.wrap (IntKind.u64.wrap x / 256), IntKind.u8.wrap (IntKind.u64.wrap x)]
def rkey (m s : Int) (t : Bool) : List Int := be8 m ++ [95] ++ be8 s ++ (if t then [116] else [])
theorem rkey_len (m s : Int) (t : Bool) : (rkey m s t).length = if t then 18 else 17 := by cases t <;> rfl
theorem or_bytes {a b : Nat} (ha : a < 72057594037927936) (hb : b < 256) : ior .u64 ((a * 256 : Nat) : Int) (b : Int) = ((a * 256 + b : Nat) : Int) := by
  have h1 : (a * 256 ||| b) = a * 256 + b := by
    have := Nat.two_pow_add_eq_or_of_lt (i := 8) (b := b) (by simpa using hb) a
    rw [Nat.mul_comm] at this
    simpa [Nat.mul_comm] using this.symm
  unfold ior
  have e : ((BitVec.ofInt 64 ((a * 256 : Nat) : Int) ||| BitVec.ofInt 64 (b : Int)).toNat) = a * 256 + b := by
    rw [BitVec.toNat_or, BitVec.ofInt_natCast, BitVec.ofInt_natCast, BitVec.toNat_ofNat, BitVec.toNat_ofNat, Nat.mod_eq_of_lt (by omega), Nat.mod_eq_of_lt (by omega), h1]
  show IntKind.u64.wrap (((BitVec.ofInt 64 ((a * 256 : Nat) : Int) ||| BitVec.ofInt 64 (b : Int)).toNat : Nat) : Int) = _
  rw [e, wrap_u64]; omega
theorem or_byte {a b r : Int} (ha : 0 ≤ a) (ha2 : a < 72057594037927936) (hb : 0 ≤ b) (hb2 : b < 256) (hr : a * 256 + b = r) : ior .u64 (IntKind.u64.wrap (a * 256)) (IntKind.u64.wrap b) = r := by
  obtain ⟨x, rfl⟩ : ∃ x : Nat, a = x := ⟨a.toNat, by omega⟩
  obtain ⟨y, rfl⟩ : ∃ y : Nat, b = y := ⟨b.toNat, by omega⟩
  have e1 : IntKind.u64.wrap ((x : Int) * 256) = ((x * 256 : Nat) : Int) := by rw [wrap_u64]; omega
  have e2 : IntKind.u64.wrap (y : Int) = (y : Int) := by rw [wrap_u64]; omega
  rw [e1, e2, or_bytes (by omega) (by omega)]; omega
end Go.Proofs.YtlnihndjepjagaaGreat
set_option linter.unusedVariables false
set_option linter.unusedSimpArgs false
namespace Go.Proofs.YtlnihndjepjagaaGreat
open Go Go.RowKit Gw Tryz
open Go.Value renaming int → vI, bool → vB, slice → vS, pointer → vP, agg → vA, tuple → vT

set_option maxHeartbeats 1600000 in
theorem hPutA (R : HP) (b : Nat) (x : Int) (c0 c1 c2 c3 c4 c5 c6 c7 c8 c9 c10 c11 c12 c13 c14 c15 c16 c17 : Value) :
    Tri Tryz.prog 109 #[(vS (some ⟨b, 0, none⟩) 17 18), (vI .u64 x)] R [cl b 5 [c0, c1, c2, c3, c4, c5, c6, c7, c8, c9, c10, c11, c12, c13, c14, c15, c16, c17]] (fun v__ post__ => v__ = (vT #[]) ∧ post__ = [cl b 5 [(vI .u8 (IntKind.u8.wrap (x / 72057594037927936))), (vI .u8 (IntKind.u8.wrap (x / 281474976710656))), (vI .u8 (IntKind.u8.wrap (x / 1099511627776))), (vI .u8 (IntKind.u8.wrap (x / 4294967296))), (vI .u8 (IntKind.u8.wrap (x / 16777216))), (vI .u8 (IntKind.u8.wrap (x / 65536))), (vI .u8 (IntKind.u8.wrap (x / 256))), (vI .u8 (IntKind.u8.wrap x)), c8, c9, c10, c11, c12, c13, c14, c15, c16, c17]]) := by
 refine Tri.into (n := 19) (al := [(vS (some ⟨b, 0, none⟩) 17 18), (vI .u64 x)]) func109 rfl ntmps109 rfl rfl fun w F H => ?_
 refine cR fun _ hK1_ => ?_
 refine sv (v := (vI .i64 0)) (x_assign rfl) ?_
 refine wn (hK1_ _ _ ?_)
 refine C_block ?_
 refine C_loopN 9 ?_
 refine C_rounds (fun _ hK2_ => ?_)
 refine C_seq (fun _ hK3_ => ?_)
 refine cR fun _ hK4_ => ?_
 refine sm (vI .i64 0) ?_
 refine sv (v := (vB true)) (x_bin rfl rfl rfl) ?_
 refine wn (hK4_ _ _ ?_)
 refine C_condT rfl ?_
 refine C_skip (X_then (hK3_ _ _ ?_))
 refine C_seq (fun _ hK5_ => ?_)
 refine C_block ?_
 refine C_reg ?_
 refine sm (vS (some ⟨b, 0, none⟩) 17 18) ?_
 refine sm (vI .i64 0) ?_
 refine sm (vI .u64 x) ?_
 refine sm (vI .i64 0) ?_
 refine sv (v := (vI .i64 7)) (x_bin rfl rfl (by rfl)) ?_
 refine sv (v := (vI .u64 7)) (x_convI rfl underlying3 underlying148 (by decide)) ?_
 refine sv (v := (vI .u64 56)) (x_bin rfl rfl (by rfl)) ?_
 refine sv (v := (vI .u64 (x / 72057594037927936))) (x_shr rfl rfl (by omega) (shrN (by decide) (by decide))) ?_
 refine sv (v := (vI .u8 (IntKind.u8.wrap (x / 72057594037927936)))) (x_convI rfl underlying209 underlying5 rfl) ?_
 refine sv (v := (vP (some ⟨b, 0, none⟩))) (x_indexAddr rfl rfl underlying101 z5 (by omega) (by omega) (by omega : _ = 0) (by first | rfl | simp | (congr 1; omega))) ?_
 refine S_list0 (T_store1 (v := (vI .u8 (IntKind.u8.wrap (x / 72057594037927936)))) rfl rfl z5 rfl H 1 rfl (Nat.le_of_ble_eq_true (by rfl)) ?_)
 intro w6_ S8_ H7_
 have S9_ := Same.trans (Same.refl w) S8_
 refine wpList_nil (X_blkN (X_then (hK5_ _ _ ?_)))
 refine C_reg ?_
 refine sm (vI .i64 0) ?_
 refine sv (v := (vI .i64 1)) (x_bin rfl rfl (by rfl)) ?_
 refine sv (v := (vI .i64 1)) (x_assign rfl) ?_
 refine wpList_nil (X_then ?_)
 refine hK2_ _ _ ?_
 refine C_rounds (fun _ hK10_ => ?_)
 refine C_seq (fun _ hK11_ => ?_)
 refine cR fun _ hK12_ => ?_
 refine sm (vI .i64 1) ?_
 refine sv (v := (vB true)) (x_bin rfl rfl rfl) ?_
 refine wn (hK12_ _ _ ?_)
 refine C_condT rfl ?_
 refine C_skip (X_then (hK11_ _ _ ?_))
 refine C_seq (fun _ hK13_ => ?_)
 refine C_block ?_
 refine C_reg ?_
 refine sm (vS (some ⟨b, 0, none⟩) 17 18) ?_
 refine sm (vI .i64 1) ?_
 refine sm (vI .u64 x) ?_
 refine sm (vI .i64 1) ?_
 refine sv (v := (vI .i64 6)) (x_bin rfl rfl (by rfl)) ?_
 refine sv (v := (vI .u64 6)) (x_convI rfl underlying3 underlying148 (by decide)) ?_
 refine sv (v := (vI .u64 48)) (x_bin rfl rfl (by rfl)) ?_
 refine sv (v := (vI .u64 (x / 281474976710656))) (x_shr rfl rfl (by omega) (shrN (by decide) (by decide))) ?_
 refine sv (v := (vI .u8 (IntKind.u8.wrap (x / 281474976710656)))) (x_convI rfl underlying209 underlying5 rfl) ?_
 refine sv (v := (vP (some ⟨b, 1, none⟩))) (x_indexAddr rfl rfl underlying101 z5 (by omega) (by omega) (by omega : _ = 1) (by first | rfl | simp | (congr 1; omega))) ?_
 refine S_list0 (T_store1 (v := (vI .u8 (IntKind.u8.wrap (x / 281474976710656)))) rfl rfl z5 rfl H7_ 1 rfl (Nat.le_of_ble_eq_true (by rfl)) ?_)
 intro w14_ S16_ H15_
 have S17_ := Same.trans S9_ S16_
 refine wpList_nil (X_blkN (X_then (hK13_ _ _ ?_)))
 refine C_reg ?_
 refine sm (vI .i64 1) ?_
 refine sv (v := (vI .i64 2)) (x_bin rfl rfl (by rfl)) ?_
 refine sv (v := (vI .i64 2)) (x_assign rfl) ?_
 refine wpList_nil (X_then ?_)
 refine hK10_ _ _ ?_
 refine C_rounds (fun _ hK18_ => ?_)
 refine C_seq (fun _ hK19_ => ?_)
 refine cR fun _ hK20_ => ?_
 refine sm (vI .i64 2) ?_
 refine sv (v := (vB true)) (x_bin rfl rfl rfl) ?_
 refine wn (hK20_ _ _ ?_)
 refine C_condT rfl ?_
 refine C_skip (X_then (hK19_ _ _ ?_))
 refine C_seq (fun _ hK21_ => ?_)
 refine C_block ?_
 refine C_reg ?_
 refine sm (vS (some ⟨b, 0, none⟩) 17 18) ?_
 refine sm (vI .i64 2) ?_
 refine sm (vI .u64 x) ?_
 refine sm (vI .i64 2) ?_
 refine sv (v := (vI .i64 5)) (x_bin rfl rfl (by rfl)) ?_
 refine sv (v := (vI .u64 5)) (x_convI rfl underlying3 underlying148 (by decide)) ?_
 refine sv (v := (vI .u64 40)) (x_bin rfl rfl (by rfl)) ?_
 refine sv (v := (vI .u64 (x / 1099511627776))) (x_shr rfl rfl (by omega) (shrN (by decide) (by decide))) ?_
 refine sv (v := (vI .u8 (IntKind.u8.wrap (x / 1099511627776)))) (x_convI rfl underlying209 underlying5 rfl) ?_
 refine sv (v := (vP (some ⟨b, 2, none⟩))) (x_indexAddr rfl rfl underlying101 z5 (by omega) (by omega) (by omega : _ = 2) (by first | rfl | simp | (congr 1; omega))) ?_
 refine S_list0 (T_store1 (v := (vI .u8 (IntKind.u8.wrap (x / 1099511627776)))) rfl rfl z5 rfl H15_ 1 rfl (Nat.le_of_ble_eq_true (by rfl)) ?_)
 intro w22_ S24_ H23_
 have S25_ := Same.trans S17_ S24_
 refine wpList_nil (X_blkN (X_then (hK21_ _ _ ?_)))
 refine C_reg ?_
 refine sm (vI .i64 2) ?_
 refine sv (v := (vI .i64 3)) (x_bin rfl rfl (by rfl)) ?_
 refine sv (v := (vI .i64 3)) (x_assign rfl) ?_
 refine wpList_nil (X_then ?_)
 refine hK18_ _ _ ?_
 refine C_rounds (fun _ hK26_ => ?_)
 refine C_seq (fun _ hK27_ => ?_)
 refine cR fun _ hK28_ => ?_
 refine sm (vI .i64 3) ?_
 refine sv (v := (vB true)) (x_bin rfl rfl rfl) ?_
 refine wn (hK28_ _ _ ?_)
 refine C_condT rfl ?_
 refine C_skip (X_then (hK27_ _ _ ?_))
 refine C_seq (fun _ hK29_ => ?_)
 refine C_block ?_
 refine C_reg ?_
 refine sm (vS (some ⟨b, 0, none⟩) 17 18) ?_
 refine sm (vI .i64 3) ?_
 refine sm (vI .u64 x) ?_
 refine sm (vI .i64 3) ?_
 refine sv (v := (vI .i64 4)) (x_bin rfl rfl (by rfl)) ?_
 refine sv (v := (vI .u64 4)) (x_convI rfl underlying3 underlying148 (by decide)) ?_
 refine sv (v := (vI .u64 32)) (x_bin rfl rfl (by rfl)) ?_
 refine sv (v := (vI .u64 (x / 4294967296))) (x_shr rfl rfl (by omega) (shrN (by decide) (by decide))) ?_
 refine sv (v := (vI .u8 (IntKind.u8.wrap (x / 4294967296)))) (x_convI rfl underlying209 underlying5 rfl) ?_
 refine sv (v := (vP (some ⟨b, 3, none⟩))) (x_indexAddr rfl rfl underlying101 z5 (by omega) (by omega) (by omega : _ = 3) (by first | rfl | simp | (congr 1; omega))) ?_
 refine S_list0 (T_store1 (v := (vI .u8 (IntKind.u8.wrap (x / 4294967296)))) rfl rfl z5 rfl H23_ 1 rfl (Nat.le_of_ble_eq_true (by rfl)) ?_)
 intro w30_ S32_ H31_
 have S33_ := Same.trans S25_ S32_
 refine wpList_nil (X_blkN (X_then (hK29_ _ _ ?_)))
 refine C_reg ?_
 refine sm (vI .i64 3) ?_
 refine sv (v := (vI .i64 4)) (x_bin rfl rfl (by rfl)) ?_
 refine sv (v := (vI .i64 4)) (x_assign rfl) ?_
 refine wpList_nil (X_then ?_)
 refine hK26_ _ _ ?_
 refine C_rounds (fun _ hK34_ => ?_)
 refine C_seq (fun _ hK35_ => ?_)
 refine cR fun _ hK36_ => ?_
 refine sm (vI .i64 4) ?_
 refine sv (v := (vB true)) (x_bin rfl rfl rfl) ?_
 refine wn (hK36_ _ _ ?_)
 refine C_condT rfl ?_
 refine C_skip (X_then (hK35_ _ _ ?_))
 refine C_seq (fun _ hK37_ => ?_)
 refine C_block ?_
 refine C_reg ?_
 refine sm (vS (some ⟨b, 0, none⟩) 17 18) ?_
 refine sm (vI .i64 4) ?_
 refine sm (vI .u64 x) ?_
 refine sm (vI .i64 4) ?_
 refine sv (v := (vI .i64 3)) (x_bin rfl rfl (by rfl)) ?_
 refine sv (v := (vI .u64 3)) (x_convI rfl underlying3 underlying148 (by decide)) ?_
 refine sv (v := (vI .u64 24)) (x_bin rfl rfl (by rfl)) ?_
 refine sv (v := (vI .u64 (x / 16777216))) (x_shr rfl rfl (by omega) (shrN (by decide) (by decide))) ?_
 refine sv (v := (vI .u8 (IntKind.u8.wrap (x / 16777216)))) (x_convI rfl underlying209 underlying5 rfl) ?_
 refine sv (v := (vP (some ⟨b, 4, none⟩))) (x_indexAddr rfl rfl underlying101 z5 (by omega) (by omega) (by omega : _ = 4) (by first | rfl | simp | (congr 1; omega))) ?_
 refine S_list0 (T_store1 (v := (vI .u8 (IntKind.u8.wrap (x / 16777216)))) rfl rfl z5 rfl H31_ 1 rfl (Nat.le_of_ble_eq_true (by rfl)) ?_)
 intro w38_ S40_ H39_
 have S41_ := Same.trans S33_ S40_
 refine wpList_nil (X_blkN (X_then (hK37_ _ _ ?_)))
 refine C_reg ?_
 refine sm (vI .i64 4) ?_
 refine sv (v := (vI .i64 5)) (x_bin rfl rfl (by rfl)) ?_
 refine sv (v := (vI .i64 5)) (x_assign rfl) ?_
 refine wpList_nil (X_then ?_)
 refine hK34_ _ _ ?_
 refine C_rounds (fun _ hK42_ => ?_)
 refine C_seq (fun _ hK43_ => ?_)
 refine cR fun _ hK44_ => ?_
 refine sm (vI .i64 5) ?_
 refine sv (v := (vB true)) (x_bin rfl rfl rfl) ?_
 refine wn (hK44_ _ _ ?_)
 refine C_condT rfl ?_
 refine C_skip (X_then (hK43_ _ _ ?_))
 refine C_seq (fun _ hK45_ => ?_)
 refine C_block ?_
 refine C_reg ?_
 refine sm (vS (some ⟨b, 0, none⟩) 17 18) ?_
 refine sm (vI .i64 5) ?_
 refine sm (vI .u64 x) ?_
 refine sm (vI .i64 5) ?_
 refine sv (v := (vI .i64 2)) (x_bin rfl rfl (by rfl)) ?_
 refine sv (v := (vI .u64 2)) (x_convI rfl underlying3 underlying148 (by decide)) ?_
 refine sv (v := (vI .u64 16)) (x_bin rfl rfl (by rfl)) ?_
 refine sv (v := (vI .u64 (x / 65536))) (x_shr rfl rfl (by omega) (shrN (by decide) (by decide))) ?_
 refine sv (v := (vI .u8 (IntKind.u8.wrap (x / 65536)))) (x_convI rfl underlying209 underlying5 rfl) ?_
 refine sv (v := (vP (some ⟨b, 5, none⟩))) (x_indexAddr rfl rfl underlying101 z5 (by omega) (by omega) (by omega : _ = 5) (by first | rfl | simp | (congr 1; omega))) ?_
 refine S_list0 (T_store1 (v := (vI .u8 (IntKind.u8.wrap (x / 65536)))) rfl rfl z5 rfl H39_ 1 rfl (Nat.le_of_ble_eq_true (by rfl)) ?_)
 intro w46_ S48_ H47_
 have S49_ := Same.trans S41_ S48_
 refine wpList_nil (X_blkN (X_then (hK45_ _ _ ?_)))
 refine C_reg ?_
 refine sm (vI .i64 5) ?_
 refine sv (v := (vI .i64 6)) (x_bin rfl rfl (by rfl)) ?_
 refine sv (v := (vI .i64 6)) (x_assign rfl) ?_
 refine wpList_nil (X_then ?_)
 refine hK42_ _ _ ?_
 refine C_rounds (fun _ hK50_ => ?_)
 refine C_seq (fun _ hK51_ => ?_)
 refine cR fun _ hK52_ => ?_
 refine sm (vI .i64 6) ?_
 refine sv (v := (vB true)) (x_bin rfl rfl rfl) ?_
 refine wn (hK52_ _ _ ?_)
 refine C_condT rfl ?_
 refine C_skip (X_then (hK51_ _ _ ?_))
 refine C_seq (fun _ hK53_ => ?_)
 refine C_block ?_
 refine C_reg ?_
 refine sm (vS (some ⟨b, 0, none⟩) 17 18) ?_
 refine sm (vI .i64 6) ?_
 refine sm (vI .u64 x) ?_
 refine sm (vI .i64 6) ?_
 refine sv (v := (vI .i64 1)) (x_bin rfl rfl (by rfl)) ?_
 refine sv (v := (vI .u64 1)) (x_convI rfl underlying3 underlying148 (by decide)) ?_
 refine sv (v := (vI .u64 8)) (x_bin rfl rfl (by rfl)) ?_
 refine sv (v := (vI .u64 (x / 256))) (x_shr rfl rfl (by omega) (shrN (by decide) (by decide))) ?_
 refine sv (v := (vI .u8 (IntKind.u8.wrap (x / 256)))) (x_convI rfl underlying209 underlying5 rfl) ?_
 refine sv (v := (vP (some ⟨b, 6, none⟩))) (x_indexAddr rfl rfl underlying101 z5 (by omega) (by omega) (by omega : _ = 6) (by first | rfl | simp | (congr 1; omega))) ?_
 refine S_list0 (T_store1 (v := (vI .u8 (IntKind.u8.wrap (x / 256)))) rfl rfl z5 rfl H47_ 1 rfl (Nat.le_of_ble_eq_true (by rfl)) ?_)
 intro w54_ S56_ H55_
 have S57_ := Same.trans S49_ S56_
 refine wpList_nil (X_blkN (X_then (hK53_ _ _ ?_)))
 refine C_reg ?_
 refine sm (vI .i64 6) ?_
 refine sv (v := (vI .i64 7)) (x_bin rfl rfl (by rfl)) ?_
 refine sv (v := (vI .i64 7)) (x_assign rfl) ?_
 refine wpList_nil (X_then ?_)
 refine hK50_ _ _ ?_
 refine C_rounds (fun _ hK58_ => ?_)
 refine C_seq (fun _ hK59_ => ?_)
 refine cR fun _ hK60_ => ?_
 refine sm (vI .i64 7) ?_
 refine sv (v := (vB true)) (x_bin rfl rfl rfl) ?_
 refine wn (hK60_ _ _ ?_)
 refine C_condT rfl ?_
 refine C_skip (X_then (hK59_ _ _ ?_))
 refine C_seq (fun _ hK61_ => ?_)
 refine C_block ?_
 refine C_reg ?_
 refine sm (vS (some ⟨b, 0, none⟩) 17 18) ?_
 refine sm (vI .i64 7) ?_
 refine sm (vI .u64 x) ?_
 refine sm (vI .i64 7) ?_
 refine sv (v := (vI .i64 0)) (x_bin rfl rfl (by rfl)) ?_
 refine sv (v := (vI .u64 0)) (x_convI rfl underlying3 underlying148 (by decide)) ?_
 refine sv (v := (vI .u64 0)) (x_bin rfl rfl (by rfl)) ?_
 refine sv (v := (vI .u64 x)) (x_shr rfl rfl (by omega) (by simp [Int.fdiv_one])) ?_
 refine sv (v := (vI .u8 (IntKind.u8.wrap x))) (x_convI rfl underlying209 underlying5 rfl) ?_
 refine sv (v := (vP (some ⟨b, 7, none⟩))) (x_indexAddr rfl rfl underlying101 z5 (by omega) (by omega) (by omega : _ = 7) (by first | rfl | simp | (congr 1; omega))) ?_
 refine S_list0 (T_store1 (v := (vI .u8 (IntKind.u8.wrap x))) rfl rfl z5 rfl H55_ 1 rfl (Nat.le_of_ble_eq_true (by rfl)) ?_)
 intro w62_ S64_ H63_
 have S65_ := Same.trans S57_ S64_
 refine wpList_nil (X_blkN (X_then (hK61_ _ _ ?_)))
 refine C_reg ?_
 refine sm (vI .i64 7) ?_
 refine sv (v := (vI .i64 8)) (x_bin rfl rfl (by rfl)) ?_
 refine sv (v := (vI .i64 8)) (x_assign rfl) ?_
 refine wpList_nil (X_then ?_)
 refine hK58_ _ _ ?_
 refine C_rounds (fun _ hK66_ => ?_)
 refine C_seq (fun _ hK67_ => ?_)
 refine cR fun _ hK68_ => ?_
 refine sm (vI .i64 8) ?_
 refine sv (v := (vB false)) (x_bin rfl rfl rfl) ?_
 refine wn (hK68_ _ _ ?_)
 refine C_condF rfl ?_
 refine C_exit (X_thenX (X_thenX (X_blkHit ?_)))
 refine R_0 rfl ?_
 exact ⟨_, _, rfl, ⟨rfl, rfl⟩, S65_, H63_⟩

set_option maxHeartbeats 1600000 in
theorem hPutB (R : HP) (b : Nat) (x : Int) (c0 c1 c2 c3 c4 c5 c6 c7 c8 c9 c10 c11 c12 c13 c14 c15 c16 c17 : Value) :
    Tri Tryz.prog 109 #[(vS (some ⟨b, 9, none⟩) 8 9), (vI .u64 x)] R [cl b 5 [c0, c1, c2, c3, c4, c5, c6, c7, c8, c9, c10, c11, c12, c13, c14, c15, c16, c17]] (fun v__ post__ => v__ = (vT #[]) ∧ post__ = [cl b 5 [c0, c1, c2, c3, c4, c5, c6, c7, c8, (vI .u8 (IntKind.u8.wrap (x / 72057594037927936))), (vI .u8 (IntKind.u8.wrap (x / 281474976710656))), (vI .u8 (IntKind.u8.wrap (x / 1099511627776))), (vI .u8 (IntKind.u8.wrap (x / 4294967296))), (vI .u8 (IntKind.u8.wrap (x / 16777216))), (vI .u8 (IntKind.u8.wrap (x / 65536))), (vI .u8 (IntKind.u8.wrap (x / 256))), (vI .u8 (IntKind.u8.wrap x)), c17]]) := by
 refine Tri.into (n := 19) (al := [(vS (some ⟨b, 9, none⟩) 8 9), (vI .u64 x)]) func109 rfl ntmps109 rfl rfl fun w F H => ?_
 refine cR fun _ hK1_ => ?_
 refine sv (v := (vI .i64 0)) (x_assign rfl) ?_
 refine wn (hK1_ _ _ ?_)
 refine C_block ?_
 refine C_loopN 9 ?_
 refine C_rounds (fun _ hK2_ => ?_)
 refine C_seq (fun _ hK3_ => ?_)
 refine cR fun _ hK4_ => ?_
 refine sm (vI .i64 0) ?_
 refine sv (v := (vB true)) (x_bin rfl rfl rfl) ?_
 refine wn (hK4_ _ _ ?_)
 refine C_condT rfl ?_
 refine C_skip (X_then (hK3_ _ _ ?_))
 refine C_seq (fun _ hK5_ => ?_)
 refine C_block ?_
 refine C_reg ?_
 refine sm (vS (some ⟨b, 9, none⟩) 8 9) ?_
 refine sm (vI .i64 0) ?_
 refine sm (vI .u64 x) ?_
 refine sm (vI .i64 0) ?_
 refine sv (v := (vI .i64 7)) (x_bin rfl rfl (by rfl)) ?_
 refine sv (v := (vI .u64 7)) (x_convI rfl underlying3 underlying148 (by decide)) ?_
 refine sv (v := (vI .u64 56)) (x_bin rfl rfl (by rfl)) ?_
 refine sv (v := (vI .u64 (x / 72057594037927936))) (x_shr rfl rfl (by omega) (shrN (by decide) (by decide))) ?_
 refine sv (v := (vI .u8 (IntKind.u8.wrap (x / 72057594037927936)))) (x_convI rfl underlying209 underlying5 rfl) ?_
 refine sv (v := (vP (some ⟨b, 9, none⟩))) (x_indexAddr rfl rfl underlying101 z5 (by omega) (by omega) (by omega : _ = 0) (by first | rfl | simp | (congr 1; omega))) ?_
 refine S_list0 (T_store1 (v := (vI .u8 (IntKind.u8.wrap (x / 72057594037927936)))) rfl rfl z5 rfl H 1 rfl (Nat.le_of_ble_eq_true (by rfl)) ?_)
 intro w6_ S8_ H7_
 have S9_ := Same.trans (Same.refl w) S8_
 refine wpList_nil (X_blkN (X_then (hK5_ _ _ ?_)))
 refine C_reg ?_
 refine sm (vI .i64 0) ?_
 refine sv (v := (vI .i64 1)) (x_bin rfl rfl (by rfl)) ?_
 refine sv (v := (vI .i64 1)) (x_assign rfl) ?_
 refine wpList_nil (X_then ?_)
 refine hK2_ _ _ ?_
 refine C_rounds (fun _ hK10_ => ?_)
 refine C_seq (fun _ hK11_ => ?_)
 refine cR fun _ hK12_ => ?_
 refine sm (vI .i64 1) ?_
 refine sv (v := (vB true)) (x_bin rfl rfl rfl) ?_
 refine wn (hK12_ _ _ ?_)
 refine C_condT rfl ?_
 refine C_skip (X_then (hK11_ _ _ ?_))
 refine C_seq (fun _ hK13_ => ?_)
 refine C_block ?_
 refine C_reg ?_
 refine sm (vS (some ⟨b, 9, none⟩) 8 9) ?_
 refine sm (vI .i64 1) ?_
 refine sm (vI .u64 x) ?_
 refine sm (vI .i64 1) ?_
 refine sv (v := (vI .i64 6)) (x_bin rfl rfl (by rfl)) ?_
 refine sv (v := (vI .u64 6)) (x_convI rfl underlying3 underlying148 (by decide)) ?_
 refine sv (v := (vI .u64 48)) (x_bin rfl rfl (by rfl)) ?_
 refine sv (v := (vI .u64 (x / 281474976710656))) (x_shr rfl rfl (by omega) (shrN (by decide) (by decide))) ?_
 refine sv (v := (vI .u8 (IntKind.u8.wrap (x / 281474976710656)))) (x_convI rfl underlying209 underlying5 rfl) ?_
 refine sv (v := (vP (some ⟨b, 10, none⟩))) (x_indexAddr rfl rfl underlying101 z5 (by omega) (by omega) (by omega : _ = 1) (by first | rfl | simp | (congr 1; omega))) ?_
 refine S_list0 (T_store1 (v := (vI .u8 (IntKind.u8.wrap (x / 281474976710656)))) rfl rfl z5 rfl H7_ 1 rfl (Nat.le_of_ble_eq_true (by rfl)) ?_)
 intro w14_ S16_ H15_
 have S17_ := Same.trans S9_ S16_
 refine wpList_nil (X_blkN (X_then (hK13_ _ _ ?_)))
 refine C_reg ?_
 refine sm (vI .i64 1) ?_
 refine sv (v := (vI .i64 2)) (x_bin rfl rfl (by rfl)) ?_
 refine sv (v := (vI .i64 2)) (x_assign rfl) ?_
 refine wpList_nil (X_then ?_)
 refine hK10_ _ _ ?_
 refine C_rounds (fun _ hK18_ => ?_)
 refine C_seq (fun _ hK19_ => ?_)
 refine cR fun _ hK20_ => ?_
 refine sm (vI .i64 2) ?_
 refine sv (v := (vB true)) (x_bin rfl rfl rfl) ?_
 refine wn (hK20_ _ _ ?_)
 refine C_condT rfl ?_
 refine C_skip (X_then (hK19_ _ _ ?_))
 refine C_seq (fun _ hK21_ => ?_)
 refine C_block ?_
 refine C_reg ?_
 refine sm (vS (some ⟨b, 9, none⟩) 8 9) ?_
 refine sm (vI .i64 2) ?_
 refine sm (vI .u64 x) ?_
 refine sm (vI .i64 2) ?_
 refine sv (v := (vI .i64 5)) (x_bin rfl rfl (by rfl)) ?_
 refine sv (v := (vI .u64 5)) (x_convI rfl underlying3 underlying148 (by decide)) ?_
 refine sv (v := (vI .u64 40)) (x_bin rfl rfl (by rfl)) ?_
 refine sv (v := (vI .u64 (x / 1099511627776))) (x_shr rfl rfl (by omega) (shrN (by decide) (by decide))) ?_
 refine sv (v := (vI .u8 (IntKind.u8.wrap (x / 1099511627776)))) (x_convI rfl underlying209 underlying5 rfl) ?_
 refine sv (v := (vP (some ⟨b, 11, none⟩))) (x_indexAddr rfl rfl underlying101 z5 (by omega) (by omega) (by omega : _ = 2) (by first | rfl | simp | (congr 1; omega))) ?_
 refine S_list0 (T_store1 (v := (vI .u8 (IntKind.u8.wrap (x / 1099511627776)))) rfl rfl z5 rfl H15_ 1 rfl (Nat.le_of_ble_eq_true (by rfl)) ?_)
 intro w22_ S24_ H23_
 have S25_ := Same.trans S17_ S24_
 refine wpList_nil (X_blkN (X_then (hK21_ _ _ ?_)))
 refine C_reg ?_
 refine sm (vI .i64 2) ?_
 refine sv (v := (vI .i64 3)) (x_bin rfl rfl (by rfl)) ?_
 refine sv (v := (vI .i64 3)) (x_assign rfl) ?_
 refine wpList_nil (X_then ?_)
 refine hK18_ _ _ ?_
 refine C_rounds (fun _ hK26_ => ?_)
 refine C_seq (fun _ hK27_ => ?_)
 refine cR fun _ hK28_ => ?_
 refine sm (vI .i64 3) ?_
 refine sv (v := (vB true)) (x_bin rfl rfl rfl) ?_
 refine wn (hK28_ _ _ ?_)
 refine C_condT rfl ?_
 refine C_skip (X_then (hK27_ _ _ ?_))
 refine C_seq (fun _ hK29_ => ?_)
 refine C_block ?_
 refine C_reg ?_
 refine sm (vS (some ⟨b, 9, none⟩) 8 9) ?_
 refine sm (vI .i64 3) ?_
 refine sm (vI .u64 x) ?_
 refine sm (vI .i64 3) ?_
 refine sv (v := (vI .i64 4)) (x_bin rfl rfl (by rfl)) ?_
 refine sv (v := (vI .u64 4)) (x_convI rfl underlying3 underlying148 (by decide)) ?_
 refine sv (v := (vI .u64 32)) (x_bin rfl rfl (by rfl)) ?_
 refine sv (v := (vI .u64 (x / 4294967296))) (x_shr rfl rfl (by omega) (shrN (by decide) (by decide))) ?_
 refine sv (v := (vI .u8 (IntKind.u8.wrap (x / 4294967296)))) (x_convI rfl underlying209 underlying5 rfl) ?_
 refine sv (v := (vP (some ⟨b, 12, none⟩))) (x_indexAddr rfl rfl underlying101 z5 (by omega) (by omega) (by omega : _ = 3) (by first | rfl | simp | (congr 1; omega))) ?_
 refine S_list0 (T_store1 (v := (vI .u8 (IntKind.u8.wrap (x / 4294967296)))) rfl rfl z5 rfl H23_ 1 rfl (Nat.le_of_ble_eq_true (by rfl)) ?_)
 intro w30_ S32_ H31_
 have S33_ := Same.trans S25_ S32_
 refine wpList_nil (X_blkN (X_then (hK29_ _ _ ?_)))
 refine C_reg ?_
 refine sm (vI .i64 3) ?_
 refine sv (v := (vI .i64 4)) (x_bin rfl rfl (by rfl)) ?_
 refine sv (v := (vI .i64 4)) (x_assign rfl) ?_
 refine wpList_nil (X_then ?_)
 refine hK26_ _ _ ?_
 refine C_rounds (fun _ hK34_ => ?_)
 refine C_seq (fun _ hK35_ => ?_)
 refine cR fun _ hK36_ => ?_
 refine sm (vI .i64 4) ?_
 refine sv (v := (vB true)) (x_bin rfl rfl rfl) ?_
 refine wn (hK36_ _ _ ?_)
 refine C_condT rfl ?_
 refine C_skip (X_then (hK35_ _ _ ?_))
 refine C_seq (fun _ hK37_ => ?_)
 refine C_block ?_
 refine C_reg ?_
 refine sm (vS (some ⟨b, 9, none⟩) 8 9) ?_
 refine sm (vI .i64 4) ?_
 refine sm (vI .u64 x) ?_
 refine sm (vI .i64 4) ?_
 refine sv (v := (vI .i64 3)) (x_bin rfl rfl (by rfl)) ?_
 refine sv (v := (vI .u64 3)) (x_convI rfl underlying3 underlying148 (by decide)) ?_
 refine sv (v := (vI .u64 24)) (x_bin rfl rfl (by rfl)) ?_
 refine sv (v := (vI .u64 (x / 16777216))) (x_shr rfl rfl (by omega) (shrN (by decide) (by decide))) ?_
 refine sv (v := (vI .u8 (IntKind.u8.wrap (x / 16777216)))) (x_convI rfl underlying209 underlying5 rfl) ?_
 refine sv (v := (vP (some ⟨b, 13, none⟩))) (x_indexAddr rfl rfl underlying101 z5 (by omega) (by omega) (by omega : _ = 4) (by first | rfl | simp | (congr 1; omega))) ?_
 refine S_list0 (T_store1 (v := (vI .u8 (IntKind.u8.wrap (x / 16777216)))) rfl rfl z5 rfl H31_ 1 rfl (Nat.le_of_ble_eq_true (by rfl)) ?_)
 intro w38_ S40_ H39_
 have S41_ := Same.trans S33_ S40_
 refine wpList_nil (X_blkN (X_then (hK37_ _ _ ?_)))
 refine C_reg ?_
 refine sm (vI .i64 4) ?_
 refine sv (v := (vI .i64 5)) (x_bin rfl rfl (by rfl)) ?_
 refine sv (v := (vI .i64 5)) (x_assign rfl) ?_
 refine wpList_nil (X_then ?_)
 refine hK34_ _ _ ?_
 refine C_rounds (fun _ hK42_ => ?_)
 refine C_seq (fun _ hK43_ => ?_)
 refine cR fun _ hK44_ => ?_
 refine sm (vI .i64 5) ?_
 refine sv (v := (vB true)) (x_bin rfl rfl rfl) ?_
 refine wn (hK44_ _ _ ?_)
 refine C_condT rfl ?_
 refine C_skip (X_then (hK43_ _ _ ?_))
 refine C_seq (fun _ hK45_ => ?_)
 refine C_block ?_
 refine C_reg ?_
 refine sm (vS (some ⟨b, 9, none⟩) 8 9) ?_
 refine sm (vI .i64 5) ?_
 refine sm (vI .u64 x) ?_
 refine sm (vI .i64 5) ?_
 refine sv (v := (vI .i64 2)) (x_bin rfl rfl (by rfl)) ?_
 refine sv (v := (vI .u64 2)) (x_convI rfl underlying3 underlying148 (by decide)) ?_
 refine sv (v := (vI .u64 16)) (x_bin rfl rfl (by rfl)) ?_
 refine sv (v := (vI .u64 (x / 65536))) (x_shr rfl rfl (by omega) (shrN (by decide) (by decide))) ?_
 refine sv (v := (vI .u8 (IntKind.u8.wrap (x / 65536)))) (x_convI rfl underlying209 underlying5 rfl) ?_
 refine sv (v := (vP (some ⟨b, 14, none⟩))) (x_indexAddr rfl rfl underlying101 z5 (by omega) (by omega) (by omega : _ = 5) (by first | rfl | simp | (congr 1; omega))) ?_
 refine S_list0 (T_store1 (v := (vI .u8 (IntKind.u8.wrap (x / 65536)))) rfl rfl z5 rfl H39_ 1 rfl (Nat.le_of_ble_eq_true (by rfl)) ?_)
 intro w46_ S48_ H47_
 have S49_ := Same.trans S41_ S48_
 refine wpList_nil (X_blkN (X_then (hK45_ _ _ ?_)))
 refine C_reg ?_
 refine sm (vI .i64 5) ?_
 refine sv (v := (vI .i64 6)) (x_bin rfl rfl (by rfl)) ?_
 refine sv (v := (vI .i64 6)) (x_assign rfl) ?_
 refine wpList_nil (X_then ?_)
 refine hK42_ _ _ ?_
 refine C_rounds (fun _ hK50_ => ?_)
 refine C_seq (fun _ hK51_ => ?_)
 refine cR fun _ hK52_ => ?_
 refine sm (vI .i64 6) ?_
 refine sv (v := (vB true)) (x_bin rfl rfl rfl) ?_
 refine wn (hK52_ _ _ ?_)
 refine C_condT rfl ?_
 refine C_skip (X_then (hK51_ _ _ ?_))
 refine C_seq (fun _ hK53_ => ?_)
 refine C_block ?_
 refine C_reg ?_
 refine sm (vS (some ⟨b, 9, none⟩) 8 9) ?_
 refine sm (vI .i64 6) ?_
 refine sm (vI .u64 x) ?_
 refine sm (vI .i64 6) ?_
 refine sv (v := (vI .i64 1)) (x_bin rfl rfl (by rfl)) ?_
 refine sv (v := (vI .u64 1)) (x_convI rfl underlying3 underlying148 (by decide)) ?_
 refine sv (v := (vI .u64 8)) (x_bin rfl rfl (by rfl)) ?_
 refine sv (v := (vI .u64 (x / 256))) (x_shr rfl rfl (by omega) (shrN (by decide) (by decide))) ?_
 refine sv (v := (vI .u8 (IntKind.u8.wrap (x / 256)))) (x_convI rfl underlying209 underlying5 rfl) ?_
 refine sv (v := (vP (some ⟨b, 15, none⟩))) (x_indexAddr rfl rfl underlying101 z5 (by omega) (by omega) (by omega : _ = 6) (by first | rfl | simp | (congr 1; omega))) ?_
 refine S_list0 (T_store1 (v := (vI .u8 (IntKind.u8.wrap (x / 256)))) rfl rfl z5 rfl H47_ 1 rfl (Nat.le_of_ble_eq_true (by rfl)) ?_)
 intro w54_ S56_ H55_
 have S57_ := Same.trans S49_ S56_
 refine wpList_nil (X_blkN (X_then (hK53_ _ _ ?_)))
 refine C_reg ?_
 refine sm (vI .i64 6) ?_
 refine sv (v := (vI .i64 7)) (x_bin rfl rfl (by rfl)) ?_
 refine sv (v := (vI .i64 7)) (x_assign rfl) ?_
 refine wpList_nil (X_then ?_)
 refine hK50_ _ _ ?_
 refine C_rounds (fun _ hK58_ => ?_)
 refine C_seq (fun _ hK59_ => ?_)
 refine cR fun _ hK60_ => ?_
 refine sm (vI .i64 7) ?_
 refine sv (v := (vB true)) (x_bin rfl rfl rfl) ?_
 refine wn (hK60_ _ _ ?_)
 refine C_condT rfl ?_
 refine C_skip (X_then (hK59_ _ _ ?_))
 refine C_seq (fun _ hK61_ => ?_)
 refine C_block ?_
 refine C_reg ?_
 refine sm (vS (some ⟨b, 9, none⟩) 8 9) ?_
 refine sm (vI .i64 7) ?_
 refine sm (vI .u64 x) ?_
 refine sm (vI .i64 7) ?_
 refine sv (v := (vI .i64 0)) (x_bin rfl rfl (by rfl)) ?_
 refine sv (v := (vI .u64 0)) (x_convI rfl underlying3 underlying148 (by decide)) ?_
 refine sv (v := (vI .u64 0)) (x_bin rfl rfl (by rfl)) ?_
 refine sv (v := (vI .u64 x)) (x_shr rfl rfl (by omega) (by simp [Int.fdiv_one])) ?_
 refine sv (v := (vI .u8 (IntKind.u8.wrap x))) (x_convI rfl underlying209 underlying5 rfl) ?_
 refine sv (v := (vP (some ⟨b, 16, none⟩))) (x_indexAddr rfl rfl underlying101 z5 (by omega) (by omega) (by omega : _ = 7) (by first | rfl | simp | (congr 1; omega))) ?_
 refine S_list0 (T_store1 (v := (vI .u8 (IntKind.u8.wrap x))) rfl rfl z5 rfl H55_ 1 rfl (Nat.le_of_ble_eq_true (by rfl)) ?_)
 intro w62_ S64_ H63_
 have S65_ := Same.trans S57_ S64_
 refine wpList_nil (X_blkN (X_then (hK61_ _ _ ?_)))
 refine C_reg ?_
 refine sm (vI .i64 7) ?_
 refine sv (v := (vI .i64 8)) (x_bin rfl rfl (by rfl)) ?_
 refine sv (v := (vI .i64 8)) (x_assign rfl) ?_
 refine wpList_nil (X_then ?_)
 refine hK58_ _ _ ?_
 refine C_rounds (fun _ hK66_ => ?_)
 refine C_seq (fun _ hK67_ => ?_)
 refine cR fun _ hK68_ => ?_
 refine sm (vI .i64 8) ?_
 refine sv (v := (vB false)) (x_bin rfl rfl rfl) ?_
 refine wn (hK68_ _ _ ?_)
 refine C_condF rfl ?_
 refine C_exit (X_thenX (X_thenX (X_blkHit ?_)))
 refine R_0 rfl ?_
 exact ⟨_, _, rfl, ⟨rfl, rfl⟩, S65_, H63_⟩

set_option maxHeartbeats 1600000 in
theorem hKey (R : HP) (b : Nat) (m s : Int) (t : Bool) :
    Tri Tryz.prog 75 #[(vA #[(vI .i64 m), (vI .i64 s), (vB t)]), (vS (some ⟨b, 0, none⟩) 17 18)] R [cl b 5 [(vI .u8 0), (vI .u8 0), (vI .u8 0), (vI .u8 0), (vI .u8 0), (vI .u8 0), (vI .u8 0), (vI .u8 0), (vI .u8 0), (vI .u8 0), (vI .u8 0), (vI .u8 0), (vI .u8 0), (vI .u8 0), (vI .u8 0), (vI .u8 0), (vI .u8 0), (vI .u8 0)]] (fun v__ post__ => ∃ (v' : Value), v__ = v' ∧ post__ = [sl 5 1 v' (List.length (rkey m s t)) (bytesV (rkey m s t))]) := by
 refine Tri.into (n := 34) (al := [(vA #[(vI .i64 m), (vI .i64 s), (vB t)]), (vS (some ⟨b, 0, none⟩) 17 18)]) func75 rfl ntmps75 rfl rfl fun w F H => ?_
 refine cR fun _ hK1_ => ?_
 refine S_list (T_box (v := (vA #[(vI .i64 m), (vI .i64 s), (vB t)])) rfl H ?_)
 intro b2_ w3_ S5_ H4_
 have S6_ := Same.trans (Same.refl w) S5_
 refine sv (v := (vS none 0 0)) (x_assign rfl) ?_
 refine wn (hK1_ _ _ ?_)
 refine cR fun _ hK7_ => ?_
 refine sm (vS (some ⟨b, 0, none⟩) 17 18) ?_
 refine sv (v := (vP (some ⟨b2_, 0, none⟩))) (by kernel_rfl) ?_
 refine sv (v := (vP (some ⟨b2_, 0, none⟩))) (by kernel_rfl) ?_
 refine sv (v := (vI .i64 m)) (x_load1 rfl underlying2 rfl ((Holds.rd H4_ 0 rfl) 0 (vI .i64 m) rfl)) ?_
 refine sv (v := (vI .u64 (IntKind.u64.wrap m))) (x_convI rfl underlying2 underlying209 rfl) ?_
 have H8_ := Holds.recl H4_ 2 rfl ((lcons (rfl : (vI .u8 0) = ((vI .u8 0))) (lcons (rfl : (vI .u8 0) = ((vI .u8 0))) (lcons (rfl : (vI .u8 0) = ((vI .u8 0))) (lcons (rfl : (vI .u8 0) = ((vI .u8 0))) (lcons (rfl : (vI .u8 0) = ((vI .u8 0))) (lcons (rfl : (vI .u8 0) = ((vI .u8 0))) (lcons (rfl : (vI .u8 0) = ((vI .u8 0))) (lcons (rfl : (vI .u8 0) = ((vI .u8 0))) (lcons (rfl : (vI .u8 0) = ((vI .u8 0))) (lcons (rfl : (vI .u8 0) = ((vI .u8 0))) (lcons (rfl : (vI .u8 0) = ((vI .u8 0))) (lcons (rfl : (vI .u8 0) = ((vI .u8 0))) (lcons (rfl : (vI .u8 0) = ((vI .u8 0))) (lcons (rfl : (vI .u8 0) = ((vI .u8 0))) (lcons (rfl : (vI .u8 0) = ((vI .u8 0))) (lcons (rfl : (vI .u8 0) = ((vI .u8 0))) (lcons (rfl : (vI .u8 0) = ((vI .u8 0))) (lcons (rfl : (vI .u8 0) = ((vI .u8 0))) rfl)))))))))))))))))) : [(vI .u8 0), (vI .u8 0), (vI .u8 0), (vI .u8 0), (vI .u8 0), (vI .u8 0), (vI .u8 0), (vI .u8 0), (vI .u8 0), (vI .u8 0), (vI .u8 0), (vI .u8 0), (vI .u8 0), (vI .u8 0), (vI .u8 0), (vI .u8 0), (vI .u8 0), (vI .u8 0)] = [((vI .u8 0)), ((vI .u8 0)), ((vI .u8 0)), ((vI .u8 0)), ((vI .u8 0)), ((vI .u8 0)), ((vI .u8 0)), ((vI .u8 0)), ((vI .u8 0)), ((vI .u8 0)), ((vI .u8 0)), ((vI .u8 0)), ((vI .u8 0)), ((vI .u8 0)), ((vI .u8 0)), ((vI .u8 0)), ((vI .u8 0)), ((vI .u8 0))])
 have H10_ := ((Holds.bring (Holds.bring H8_ 2 rfl) 2 rfl) :)
 refine S_list (T_call (al := [(vS (some ⟨b, 0, none⟩) 17 18), (vI .u64 (IntKind.u64.wrap m))]) (pre := [cl b 5 [((vI .u8 0)), ((vI .u8 0)), ((vI .u8 0)), ((vI .u8 0)), ((vI .u8 0)), ((vI .u8 0)), ((vI .u8 0)), ((vI .u8 0)), ((vI .u8 0)), ((vI .u8 0)), ((vI .u8 0)), ((vI .u8 0)), ((vI .u8 0)), ((vI .u8 0)), ((vI .u8 0)), ((vI .u8 0)), ((vI .u8 0)), ((vI .u8 0))]]) rfl rfl cb109 (hPutA R b (IntKind.u64.wrap m) (vI .u8 0) (vI .u8 0) (vI .u8 0) (vI .u8 0) (vI .u8 0) (vI .u8 0) (vI .u8 0) (vI .u8 0) (vI .u8 0) (vI .u8 0) (vI .u8 0) (vI .u8 0) (vI .u8 0) (vI .u8 0) (vI .u8 0) (vI .u8 0) (vI .u8 0) (vI .u8 0)) H10_ ?_)
 rintro v9_ p14_ w11_ ⟨rfl, rfl⟩ S13_ H12_
 have S15_ := Same.trans S6_ S13_
 refine wn (hK7_ _ _ ?_)
 refine cR fun _ hK16_ => ?_
 refine sm (vS (some ⟨b, 0, none⟩) 17 18) ?_
 refine sv (v := (vP (some ⟨b, 8, none⟩))) (x_indexAddr rfl rfl underlying101 z5 (by omega) (by omega) (by omega : _ = 8) (by first | rfl | simp | (congr 1; omega))) ?_
 refine S_list0 (T_store1 (v := (vI .u8 95)) rfl rfl z5 rfl H12_ 1 rfl (Nat.le_of_ble_eq_true (by rfl)) ?_)
 intro w17_ S19_ H18_
 have S20_ := Same.trans S15_ S19_
 refine wn (hK16_ _ _ ?_)
 refine C_seq (fun _ hK21_ => ?_)
 refine A_start (S := fun w => Rd b2_ [(vI .i64 m), (vI .i64 s), (vB t)] w ∧ Sub R (hp w)) (N := 7) foll rfl rfl ?_
 have H22_ := Holds.drew_ H18_
 have hq23_ := And.intro (Holds.rd H22_ 2 rfl) ((Holds.ro_at H22_ 0 rfl))
 refine A_tk 0 (v := (vS (some ⟨b, 0, none⟩) 17 18)) rfl (by kernel_rfl) (fun w hS => x_move rfl) hq23_ ?_
 refine A_tk 1 (v := (vS (some ⟨b, 9, none⟩) 8 9)) rfl (by kernel_rfl) (fun w hS => x_slice (l := 9) (h := 17) rfl underlying101 z5 rfl ⟨_, _, rfl, by omega, by omega, by omega⟩ ((by rw [if_neg (by omega)]; first | rfl | simp [add_mk]))) hq23_ ?_
 refine A_tk 2 (v := (vP (some ⟨b2_, 0, none⟩))) rfl (by kernel_rfl) (fun w hS => by kernel_rfl) hq23_ ?_
 refine A_tk 3 (v := (vP (some ⟨b2_, 1, none⟩))) rfl (by kernel_rfl) (fun w hS => by kernel_rfl) hq23_ ?_
 refine A_tk 4 (v := (vI .i64 s)) rfl (by kernel_rfl) (fun w hS => x_load1 rfl underlying2 rfl (hS.1 1 (vI .i64 s) rfl)) hq23_ ?_
 refine A_tk 5 (v := (vI .u64 (IntKind.u64.wrap s))) rfl (by kernel_rfl) (fun w hS => x_convI rfl underlying2 underlying209 rfl) hq23_ ?_
 refine A_ready (i := 6) (rs := []) (by kernel_rfl) ?_
 refine AllR.cons ?_ AllR.nil
 have H24_ := Holds.recl H22_ 1 rfl ((lcons (rfl : (vI .u8 (IntKind.u8.wrap ((IntKind.u64.wrap m) / 72057594037927936))) = ((vI .u8 (IntKind.u8.wrap ((IntKind.u64.wrap m) / 72057594037927936))))) (lcons (rfl : (vI .u8 (IntKind.u8.wrap ((IntKind.u64.wrap m) / 281474976710656))) = ((vI .u8 (IntKind.u8.wrap ((IntKind.u64.wrap m) / 281474976710656))))) (lcons (rfl : (vI .u8 (IntKind.u8.wrap ((IntKind.u64.wrap m) / 1099511627776))) = ((vI .u8 (IntKind.u8.wrap ((IntKind.u64.wrap m) / 1099511627776))))) (lcons (rfl : (vI .u8 (IntKind.u8.wrap ((IntKind.u64.wrap m) / 4294967296))) = ((vI .u8 (IntKind.u8.wrap ((IntKind.u64.wrap m) / 4294967296))))) (lcons (rfl : (vI .u8 (IntKind.u8.wrap ((IntKind.u64.wrap m) / 16777216))) = ((vI .u8 (IntKind.u8.wrap ((IntKind.u64.wrap m) / 16777216))))) (lcons (rfl : (vI .u8 (IntKind.u8.wrap ((IntKind.u64.wrap m) / 65536))) = ((vI .u8 (IntKind.u8.wrap ((IntKind.u64.wrap m) / 65536))))) (lcons (rfl : (vI .u8 (IntKind.u8.wrap ((IntKind.u64.wrap m) / 256))) = ((vI .u8 (IntKind.u8.wrap ((IntKind.u64.wrap m) / 256))))) (lcons (rfl : (vI .u8 (IntKind.u8.wrap (IntKind.u64.wrap m))) = ((vI .u8 (IntKind.u8.wrap (IntKind.u64.wrap m))))) (lcons (rfl : (vI .u8 95) = ((vI .u8 95))) rfl))))))))) : [(vI .u8 (IntKind.u8.wrap ((IntKind.u64.wrap m) / 72057594037927936))), (vI .u8 (IntKind.u8.wrap ((IntKind.u64.wrap m) / 281474976710656))), (vI .u8 (IntKind.u8.wrap ((IntKind.u64.wrap m) / 1099511627776))), (vI .u8 (IntKind.u8.wrap ((IntKind.u64.wrap m) / 4294967296))), (vI .u8 (IntKind.u8.wrap ((IntKind.u64.wrap m) / 16777216))), (vI .u8 (IntKind.u8.wrap ((IntKind.u64.wrap m) / 65536))), (vI .u8 (IntKind.u8.wrap ((IntKind.u64.wrap m) / 256))), (vI .u8 (IntKind.u8.wrap (IntKind.u64.wrap m))), (vI .u8 95), ((vI .u8 0)), ((vI .u8 0)), ((vI .u8 0)), ((vI .u8 0)), ((vI .u8 0)), ((vI .u8 0)), ((vI .u8 0)), ((vI .u8 0)), ((vI .u8 0))] = [((vI .u8 (IntKind.u8.wrap ((IntKind.u64.wrap m) / 72057594037927936)))), ((vI .u8 (IntKind.u8.wrap ((IntKind.u64.wrap m) / 281474976710656)))), ((vI .u8 (IntKind.u8.wrap ((IntKind.u64.wrap m) / 1099511627776)))), ((vI .u8 (IntKind.u8.wrap ((IntKind.u64.wrap m) / 4294967296)))), ((vI .u8 (IntKind.u8.wrap ((IntKind.u64.wrap m) / 16777216)))), ((vI .u8 (IntKind.u8.wrap ((IntKind.u64.wrap m) / 65536)))), ((vI .u8 (IntKind.u8.wrap ((IntKind.u64.wrap m) / 256)))), ((vI .u8 (IntKind.u8.wrap (IntKind.u64.wrap m)))), ((vI .u8 95)), ((vI .u8 0)), ((vI .u8 0)), ((vI .u8 0)), ((vI .u8 0)), ((vI .u8 0)), ((vI .u8 0)), ((vI .u8 0)), ((vI .u8 0)), ((vI .u8 0))])
 refine A_op (ls' := #[true, true, true, true, true, true, true]) rfl (by kernel_rfl) (T_call (al := [(vS (some ⟨b, 9, none⟩) 8 9), (vI .u64 (IntKind.u64.wrap s))]) (pre := [cl b 5 [((vI .u8 (IntKind.u8.wrap ((IntKind.u64.wrap m) / 72057594037927936)))), ((vI .u8 (IntKind.u8.wrap ((IntKind.u64.wrap m) / 281474976710656)))), ((vI .u8 (IntKind.u8.wrap ((IntKind.u64.wrap m) / 1099511627776)))), ((vI .u8 (IntKind.u8.wrap ((IntKind.u64.wrap m) / 4294967296)))), ((vI .u8 (IntKind.u8.wrap ((IntKind.u64.wrap m) / 16777216)))), ((vI .u8 (IntKind.u8.wrap ((IntKind.u64.wrap m) / 65536)))), ((vI .u8 (IntKind.u8.wrap ((IntKind.u64.wrap m) / 256)))), ((vI .u8 (IntKind.u8.wrap (IntKind.u64.wrap m)))), ((vI .u8 95)), ((vI .u8 0)), ((vI .u8 0)), ((vI .u8 0)), ((vI .u8 0)), ((vI .u8 0)), ((vI .u8 0)), ((vI .u8 0)), ((vI .u8 0)), ((vI .u8 0))]]) rfl rfl cb109 (hPutB R b (IntKind.u64.wrap s) (vI .u8 (IntKind.u8.wrap ((IntKind.u64.wrap m) / 72057594037927936))) (vI .u8 (IntKind.u8.wrap ((IntKind.u64.wrap m) / 281474976710656))) (vI .u8 (IntKind.u8.wrap ((IntKind.u64.wrap m) / 1099511627776))) (vI .u8 (IntKind.u8.wrap ((IntKind.u64.wrap m) / 4294967296))) (vI .u8 (IntKind.u8.wrap ((IntKind.u64.wrap m) / 16777216))) (vI .u8 (IntKind.u8.wrap ((IntKind.u64.wrap m) / 65536))) (vI .u8 (IntKind.u8.wrap ((IntKind.u64.wrap m) / 256))) (vI .u8 (IntKind.u8.wrap (IntKind.u64.wrap m))) (vI .u8 95) (vI .u8 0) (vI .u8 0) (vI .u8 0) (vI .u8 0) (vI .u8 0) (vI .u8 0) (vI .u8 0) (vI .u8 0) (vI .u8 0)) H24_ ?_)
 rintro v25_ p29_ w26_ ⟨rfl, rfl⟩ S28_ H27_
 have S30_ := Same.trans (Same.trans S20_ (Same.drew _)) S28_
 refine ⟨⟨Holds.rd H27_ 2 rfl, (Holds.ro_at H27_ 0 rfl)⟩, ?_⟩
 refine A_done (by kernel_rfl) ?_
 refine (X_then (hK21_ _ _ ?_))
 refine C_seq (fun _ hK31_ => ?_)
 refine cR fun _ hK32_ => ?_
 refine sv (v := (vP (some ⟨b2_, 2, none⟩))) (by kernel_rfl) ?_
 refine sv (v := (vB t)) (x_load1 rfl underlying4 rfl ((Holds.rd H27_ 2 rfl) 2 (vB t) rfl)) ?_
 refine wn (hK32_ _ _ ?_)
 refine C_cond (b := t) rfl (fun c33_t => ?_) (fun c33_f => ?_)
 ·skip
  refine cR fun _ hK34_ => ?_
  refine sm (vS (some ⟨b, 0, none⟩) 17 18) ?_
  refine sv (v := (vI .i64 17)) (x_lenS rfl underlying101) ?_
  refine wn (hK34_ _ _ ?_)
  refine C_block ?_
  refine cR fun _ hK35_ => ?_
  refine sv (v := (vB true)) (x_bin rfl rfl rfl) ?_
  refine sv (v := (vB true)) (x_assign rfl) ?_
  refine wn (hK35_ _ _ ?_)
  refine C_condT rfl ?_
  refine C_reg ?_
  refine sm (vS (some ⟨b, 0, none⟩) 17 18) ?_
  refine S_list (T_new (obj := .cells #[(vI .u8 116)] 5) (f := fun b__ => .slice (some ⟨b__, 0, none⟩) 1 1) (A := fun b__ => cl b__ 5 [(vI .u8 116)]) (by kernel_rfl) (fun l h => h.alloc _ _) H27_ ?_)
  intro b36_ w37_ S39_ H38_
  have S40_ := Same.trans S30_ S39_
  have H41_ : Holds w37_ (cl b36_ 5 [(vI .u8 116)] :: ro R :: cl b 5 ([] ++ bytesV (rkey m s false) ++ [vI .u8 0]) :: cl b2_ 123 [(vI .i64 m), (vI .i64 s), (vB t)] :: F) := cast1 (P := fun (c__ : List Value) => Holds w37_ (cl b36_ 5 [(vI .u8 116)] :: ro R :: cl b 5 c__ :: cl b2_ 123 [(vI .i64 m), (vI .i64 s), (vB t)] :: F)) (rfl : [((vI .u8 (IntKind.u8.wrap ((IntKind.u64.wrap m) / 72057594037927936)))), ((vI .u8 (IntKind.u8.wrap ((IntKind.u64.wrap m) / 281474976710656)))), ((vI .u8 (IntKind.u8.wrap ((IntKind.u64.wrap m) / 1099511627776)))), ((vI .u8 (IntKind.u8.wrap ((IntKind.u64.wrap m) / 4294967296)))), ((vI .u8 (IntKind.u8.wrap ((IntKind.u64.wrap m) / 16777216)))), ((vI .u8 (IntKind.u8.wrap ((IntKind.u64.wrap m) / 65536)))), ((vI .u8 (IntKind.u8.wrap ((IntKind.u64.wrap m) / 256)))), ((vI .u8 (IntKind.u8.wrap (IntKind.u64.wrap m)))), ((vI .u8 95)), (vI .u8 (IntKind.u8.wrap ((IntKind.u64.wrap s) / 72057594037927936))), (vI .u8 (IntKind.u8.wrap ((IntKind.u64.wrap s) / 281474976710656))), (vI .u8 (IntKind.u8.wrap ((IntKind.u64.wrap s) / 1099511627776))), (vI .u8 (IntKind.u8.wrap ((IntKind.u64.wrap s) / 4294967296))), (vI .u8 (IntKind.u8.wrap ((IntKind.u64.wrap s) / 16777216))), (vI .u8 (IntKind.u8.wrap ((IntKind.u64.wrap s) / 65536))), (vI .u8 (IntKind.u8.wrap ((IntKind.u64.wrap s) / 256))), (vI .u8 (IntKind.u8.wrap (IntKind.u64.wrap s))), ((vI .u8 0))] = [] ++ bytesV (rkey m s false) ++ [vI .u8 0]) H38_
  have H42_ : Holds w37_ (cl b36_ 5 [(vI .u8 116)] :: ro R :: sl 5 1 (vS (some ⟨b, 0, none⟩) 17 18) (List.length (rkey m s false)) (bytesV (rkey m s false)) :: cl b2_ 123 [(vI .i64 m), (vI .i64 s), (vB t)] :: F) := Holds.to_sl H41_ 2 [] [vI .u8 0] (xs := bytesV (rkey m s false)) (m := 17) (cap := 18) (sz := 1) rfl rfl rfl (by omega)
  refine S_list (T_append rfl rfl underlying101 z5 rfl (by decide) H42_ 2 rfl (Holds.cl_src H42_ 0 rfl underlying101 (by simp [Value.oneCell']) rfl) (by rw [rkey_len]; decide) ?_)
  intro v43_ w44_ S46_ H45_
  have S47_ := Same.trans S40_ S46_
  have H48_ := Holds.resl H45_ 2 rfl (by simp [bytesV] : (bytesV (rkey m s false)) ++ [(vI .u8 116)] = bytesV ((rkey m s false) ++ [116])) (by first | (simp; done) | (simp; omega) | (have := RS.blen trivial; simp; omega) : (List.length (rkey m s false)) + 1 = (List.length ((rkey m s false) ++ [116])))
  refine sv (v := v43_) (x_assign rfl) ?_
  refine wpList_nil (X_blkN (X_then (hK31_ _ _ ?_)))
  refine cR fun _ hK49_ => ?_
  refine sv (v := v43_) (x_move rfl) ?_
  refine sv (v := v43_) (x_assign rfl) ?_
  refine wn (hK49_ _ _ ?_)
  refine C_ret ?_
  refine R_any (v := v43_) (run_results1 rfl rfl) ?_
  have H50_ := Holds.resl H48_ 2 rfl ((by rw [c33_t] <;> rfl) : bytesV ((rkey m s false) ++ [116]) = bytesV (rkey m s t)) ((by rw [c33_t] <;> rfl) : (List.length ((rkey m s false) ++ [116])) = (List.length (rkey m s t)))
  have H51_ := Holds.pkF H50_ [1, 1] 2
  exact ⟨_, _, rfl, ⟨v43_, rfl, rfl⟩, S47_, H51_⟩
 ·skip
  refine C_skip (X_then (hK31_ _ _ ?_))
  refine cR fun _ hK52_ => ?_
  refine sm (vS (some ⟨b, 0, none⟩) 17 18) ?_
  refine sv (v := (vS (some ⟨b, 0, none⟩) 17 18)) (x_assign rfl) ?_
  refine wn (hK52_ _ _ ?_)
  refine C_ret ?_
  refine R_any (v := (vS (some ⟨b, 0, none⟩) 17 18)) (run_results1 rfl rfl) ?_
  have H53_ : Holds w26_ (ro R :: cl b 5 ([] ++ bytesV (rkey m s false) ++ [vI .u8 0]) :: cl b2_ 123 [(vI .i64 m), (vI .i64 s), (vB t)] :: F) := cast1 (P := fun (c__ : List Value) => Holds w26_ (ro R :: cl b 5 c__ :: cl b2_ 123 [(vI .i64 m), (vI .i64 s), (vB t)] :: F)) (rfl : [((vI .u8 (IntKind.u8.wrap ((IntKind.u64.wrap m) / 72057594037927936)))), ((vI .u8 (IntKind.u8.wrap ((IntKind.u64.wrap m) / 281474976710656)))), ((vI .u8 (IntKind.u8.wrap ((IntKind.u64.wrap m) / 1099511627776)))), ((vI .u8 (IntKind.u8.wrap ((IntKind.u64.wrap m) / 4294967296)))), ((vI .u8 (IntKind.u8.wrap ((IntKind.u64.wrap m) / 16777216)))), ((vI .u8 (IntKind.u8.wrap ((IntKind.u64.wrap m) / 65536)))), ((vI .u8 (IntKind.u8.wrap ((IntKind.u64.wrap m) / 256)))), ((vI .u8 (IntKind.u8.wrap (IntKind.u64.wrap m)))), ((vI .u8 95)), (vI .u8 (IntKind.u8.wrap ((IntKind.u64.wrap s) / 72057594037927936))), (vI .u8 (IntKind.u8.wrap ((IntKind.u64.wrap s) / 281474976710656))), (vI .u8 (IntKind.u8.wrap ((IntKind.u64.wrap s) / 1099511627776))), (vI .u8 (IntKind.u8.wrap ((IntKind.u64.wrap s) / 4294967296))), (vI .u8 (IntKind.u8.wrap ((IntKind.u64.wrap s) / 16777216))), (vI .u8 (IntKind.u8.wrap ((IntKind.u64.wrap s) / 65536))), (vI .u8 (IntKind.u8.wrap ((IntKind.u64.wrap s) / 256))), (vI .u8 (IntKind.u8.wrap (IntKind.u64.wrap s))), ((vI .u8 0))] = [] ++ bytesV (rkey m s false) ++ [vI .u8 0]) H27_
  have H54_ : Holds w26_ (ro R :: sl 5 1 (vS (some ⟨b, 0, none⟩) 17 18) (List.length (rkey m s false)) (bytesV (rkey m s false)) :: cl b2_ 123 [(vI .i64 m), (vI .i64 s), (vB t)] :: F) := Holds.to_sl H53_ 1 [] [vI .u8 0] (xs := bytesV (rkey m s false)) (m := 17) (cap := 18) (sz := 1) rfl rfl rfl (by omega)
  have H55_ := Holds.resl H54_ 1 rfl ((by rw [c33_f] <;> rfl) : bytesV (rkey m s false) = bytesV (rkey m s t)) ((by rw [c33_f] <;> rfl) : (List.length (rkey m s false)) = (List.length (rkey m s t)))
  have H56_ := Holds.pkF H55_ [0, 0] 1
  exact ⟨_, _, rfl, ⟨(vS (some ⟨b, 0, none⟩) 17 18), (rfl : (vS (some ⟨b, 0, none⟩) 17 18) = ((vS (some ⟨b, 0, none⟩) 17 18))), rfl⟩, S30_, H56_⟩
end Go.Proofs.YtlnihndjepjagaaGreat
set_option linter.unusedVariables false
set_option linter.unusedSimpArgs false
namespace Go.Proofs.YtlnihndjepjagaaGreat
open Go Go.RowKit Gw Tryz
open Go.Value renaming int → vI, bool → vB, slice → vS, pointer → vP, agg → vA, tuple → vT

theorem i64_u64 {m : Int} (h : 0 ≤ m) (h2 : m < 9223372036854775808) : IntKind.i64.wrap (IntKind.u64.wrap m) = m := by
  rw [wrap_u64, show m % 18446744073709551616 = m by omega]; exact IntWalk.i64_in _ (by omega)

set_option maxHeartbeats 1600000 in
theorem hU64 (R : HP) (v : Value) (x : Int) (n : Nat) (rest : List Int) (hV : RS R 1 v n (bytesV (be8 x ++ rest))) (h8 : 8 ≤ n) :
    Tri Tryz.prog 121 #[v] R [] (fun v__ post__ => v__ = (vI .u64 (IntKind.u64.wrap x)) ∧ post__ = []) := by
 have hx := u64_range x
 have hb0 := wrap_u8 (IntKind.u64.wrap x / 72057594037927936)
 have hb1 := wrap_u8 (IntKind.u64.wrap x / 281474976710656)
 have hb2 := wrap_u8 (IntKind.u64.wrap x / 1099511627776)
 have hb3 := wrap_u8 (IntKind.u64.wrap x / 4294967296)
 have hb4 := wrap_u8 (IntKind.u64.wrap x / 16777216)
 have hb5 := wrap_u8 (IntKind.u64.wrap x / 65536)
 have hb6 := wrap_u8 (IntKind.u64.wrap x / 256)
 have hb7 := wrap_u8 (IntKind.u64.wrap x)
 refine Tri.into (n := 18) (al := [v]) func121 rfl ntmps121 rfl rfl fun w F H => ?_
 refine cR fun _ hK1_ => ?_
 refine sv (v := (vI .u64 0)) (x_assign rfl) ?_
 refine wn (hK1_ _ _ ?_)
 refine cR fun _ hK2_ => ?_
 refine sv (v := (vI .u64 0)) (x_assign rfl) ?_
 refine wn (hK2_ _ _ ?_)
 refine C_seq (fun _ hK3_ => ?_)
 refine cR fun _ hK4_ => ?_
 refine sv (v := (vI .i64 0)) (x_assign rfl) ?_
 refine wn (hK4_ _ _ ?_)
 refine C_block ?_
 refine C_loopN 9 ?_
 refine C_rounds (fun _ hK5_ => ?_)
 refine C_seq (fun _ hK6_ => ?_)
 refine cR fun _ hK7_ => ?_
 refine sm (vI .i64 0) ?_
 refine sv (v := (vB true)) (x_bin rfl rfl rfl) ?_
 refine wn (hK7_ _ _ ?_)
 refine C_condT rfl ?_
 refine C_skip (X_then (hK6_ _ _ ?_))
 refine C_seq (fun _ hK8_ => ?_)
 refine C_block ?_
 refine C_reg ?_
 refine sm (vI .u64 0) ?_
 refine sv (v := (vI .u64 0)) (x_shl rfl rfl (by decide) (by decide)) ?_
 refine sv (v := v) (x_move rfl) ?_
 refine sm (vI .i64 0) ?_
 refine sv (v := (vP (some ⟨(sb v), so v + 0, none⟩))) (x_idxRS (v := v) rfl hV rfl underlying101 z5 (by omega) (by omega) (by omega : _ = 0) (by rw [Nat.mul_one])) ?_
 refine sv (v := (vI .u8 (IntKind.u8.wrap (IntKind.u64.wrap x / 72057594037927936)))) (x_load1 rfl underlying5 rfl (RC.cell (RS.rc hV) (Holds.ro_at H 0 rfl) (j := 0) (u := (vI .u8 (IntKind.u8.wrap (IntKind.u64.wrap x / 72057594037927936)))) ((map_at (rfl : (be8 x ++ rest)[0]? = some (IntKind.u8.wrap (IntKind.u64.wrap x / 72057594037927936))))))) ?_
 refine sv (v := (vI .u64 (IntKind.u64.wrap (IntKind.u8.wrap (IntKind.u64.wrap x / 72057594037927936))))) (x_convI rfl underlying5 underlying209 rfl) ?_
 refine sv (v := (vI .u64 (IntKind.u64.wrap x / 72057594037927936))) (x_bin rfl rfl ((by have h_ := or_byte (a := 0) (b := (IntKind.u8.wrap (IntKind.u64.wrap x / 72057594037927936))) (r := (IntKind.u64.wrap x / 72057594037927936)) (by omega) (by omega) (by omega) (by omega) (by omega); exact congrArg (fun z => some (vI .u64 z)) h_))) ?_
 refine sv (v := (vI .u64 (IntKind.u64.wrap x / 72057594037927936))) (x_assign rfl) ?_
 refine wpList_nil (X_blkN (X_then (hK8_ _ _ ?_)))
 refine C_reg ?_
 refine sm (vI .i64 0) ?_
 refine sv (v := (vI .i64 1)) (x_bin rfl rfl (by rfl)) ?_
 refine sv (v := (vI .i64 1)) (x_assign rfl) ?_
 refine wpList_nil (X_then ?_)
 refine hK5_ _ _ ?_
 refine C_rounds (fun _ hK9_ => ?_)
 refine C_seq (fun _ hK10_ => ?_)
 refine cR fun _ hK11_ => ?_
 refine sm (vI .i64 1) ?_
 refine sv (v := (vB true)) (x_bin rfl rfl rfl) ?_
 refine wn (hK11_ _ _ ?_)
 refine C_condT rfl ?_
 refine C_skip (X_then (hK10_ _ _ ?_))
 refine C_seq (fun _ hK12_ => ?_)
 refine C_block ?_
 refine C_reg ?_
 refine sm (vI .u64 (IntKind.u64.wrap x / 72057594037927936)) ?_
 refine sv (v := (vI .u64 (IntKind.u64.wrap ((IntKind.u64.wrap x / 72057594037927936) * 256)))) (x_shl rfl rfl (by omega) rfl) ?_
 refine sv (v := v) (x_move rfl) ?_
 refine sm (vI .i64 1) ?_
 refine sv (v := (vP (some ⟨(sb v), so v + 1, none⟩))) (x_idxRS (v := v) rfl hV rfl underlying101 z5 (by omega) (by omega) (by omega : _ = 1) (by rw [Nat.mul_one])) ?_
 refine sv (v := (vI .u8 (IntKind.u8.wrap (IntKind.u64.wrap x / 281474976710656)))) (x_load1 rfl underlying5 rfl (RC.cell (RS.rc hV) (Holds.ro_at H 0 rfl) (j := 1) (u := (vI .u8 (IntKind.u8.wrap (IntKind.u64.wrap x / 281474976710656)))) ((map_at (rfl : (be8 x ++ rest)[1]? = some (IntKind.u8.wrap (IntKind.u64.wrap x / 281474976710656))))))) ?_
 refine sv (v := (vI .u64 (IntKind.u64.wrap (IntKind.u8.wrap (IntKind.u64.wrap x / 281474976710656))))) (x_convI rfl underlying5 underlying209 rfl) ?_
 refine sv (v := (vI .u64 (IntKind.u64.wrap x / 281474976710656))) (x_bin rfl rfl ((by have h_ := or_byte (a := (IntKind.u64.wrap x / 72057594037927936)) (b := (IntKind.u8.wrap (IntKind.u64.wrap x / 281474976710656))) (r := (IntKind.u64.wrap x / 281474976710656)) (by omega) (by omega) (by omega) (by omega) (by omega); exact congrArg (fun z => some (vI .u64 z)) h_))) ?_
 refine sv (v := (vI .u64 (IntKind.u64.wrap x / 281474976710656))) (x_assign rfl) ?_
 refine wpList_nil (X_blkN (X_then (hK12_ _ _ ?_)))
 refine C_reg ?_
 refine sm (vI .i64 1) ?_
 refine sv (v := (vI .i64 2)) (x_bin rfl rfl (by rfl)) ?_
 refine sv (v := (vI .i64 2)) (x_assign rfl) ?_
 refine wpList_nil (X_then ?_)
 refine hK9_ _ _ ?_
 refine C_rounds (fun _ hK13_ => ?_)
 refine C_seq (fun _ hK14_ => ?_)
 refine cR fun _ hK15_ => ?_
 refine sm (vI .i64 2) ?_
 refine sv (v := (vB true)) (x_bin rfl rfl rfl) ?_
 refine wn (hK15_ _ _ ?_)
 refine C_condT rfl ?_
 refine C_skip (X_then (hK14_ _ _ ?_))
 refine C_seq (fun _ hK16_ => ?_)
 refine C_block ?_
 refine C_reg ?_
 refine sm (vI .u64 (IntKind.u64.wrap x / 281474976710656)) ?_
 refine sv (v := (vI .u64 (IntKind.u64.wrap ((IntKind.u64.wrap x / 281474976710656) * 256)))) (x_shl rfl rfl (by omega) rfl) ?_
 refine sv (v := v) (x_move rfl) ?_
 refine sm (vI .i64 2) ?_
 refine sv (v := (vP (some ⟨(sb v), so v + 2, none⟩))) (x_idxRS (v := v) rfl hV rfl underlying101 z5 (by omega) (by omega) (by omega : _ = 2) (by rw [Nat.mul_one])) ?_
 refine sv (v := (vI .u8 (IntKind.u8.wrap (IntKind.u64.wrap x / 1099511627776)))) (x_load1 rfl underlying5 rfl (RC.cell (RS.rc hV) (Holds.ro_at H 0 rfl) (j := 2) (u := (vI .u8 (IntKind.u8.wrap (IntKind.u64.wrap x / 1099511627776)))) ((map_at (rfl : (be8 x ++ rest)[2]? = some (IntKind.u8.wrap (IntKind.u64.wrap x / 1099511627776))))))) ?_
 refine sv (v := (vI .u64 (IntKind.u64.wrap (IntKind.u8.wrap (IntKind.u64.wrap x / 1099511627776))))) (x_convI rfl underlying5 underlying209 rfl) ?_
 refine sv (v := (vI .u64 (IntKind.u64.wrap x / 1099511627776))) (x_bin rfl rfl ((by have h_ := or_byte (a := (IntKind.u64.wrap x / 281474976710656)) (b := (IntKind.u8.wrap (IntKind.u64.wrap x / 1099511627776))) (r := (IntKind.u64.wrap x / 1099511627776)) (by omega) (by omega) (by omega) (by omega) (by omega); exact congrArg (fun z => some (vI .u64 z)) h_))) ?_
 refine sv (v := (vI .u64 (IntKind.u64.wrap x / 1099511627776))) (x_assign rfl) ?_
 refine wpList_nil (X_blkN (X_then (hK16_ _ _ ?_)))
 refine C_reg ?_
 refine sm (vI .i64 2) ?_
 refine sv (v := (vI .i64 3)) (x_bin rfl rfl (by rfl)) ?_
 refine sv (v := (vI .i64 3)) (x_assign rfl) ?_
 refine wpList_nil (X_then ?_)
 refine hK13_ _ _ ?_
 refine C_rounds (fun _ hK17_ => ?_)
 refine C_seq (fun _ hK18_ => ?_)
 refine cR fun _ hK19_ => ?_
 refine sm (vI .i64 3) ?_
 refine sv (v := (vB true)) (x_bin rfl rfl rfl) ?_
 refine wn (hK19_ _ _ ?_)
 refine C_condT rfl ?_
 refine C_skip (X_then (hK18_ _ _ ?_))
 refine C_seq (fun _ hK20_ => ?_)
 refine C_block ?_
 refine C_reg ?_
 refine sm (vI .u64 (IntKind.u64.wrap x / 1099511627776)) ?_
 refine sv (v := (vI .u64 (IntKind.u64.wrap ((IntKind.u64.wrap x / 1099511627776) * 256)))) (x_shl rfl rfl (by omega) rfl) ?_
 refine sv (v := v) (x_move rfl) ?_
 refine sm (vI .i64 3) ?_
 refine sv (v := (vP (some ⟨(sb v), so v + 3, none⟩))) (x_idxRS (v := v) rfl hV rfl underlying101 z5 (by omega) (by omega) (by omega : _ = 3) (by rw [Nat.mul_one])) ?_
 refine sv (v := (vI .u8 (IntKind.u8.wrap (IntKind.u64.wrap x / 4294967296)))) (x_load1 rfl underlying5 rfl (RC.cell (RS.rc hV) (Holds.ro_at H 0 rfl) (j := 3) (u := (vI .u8 (IntKind.u8.wrap (IntKind.u64.wrap x / 4294967296)))) ((map_at (rfl : (be8 x ++ rest)[3]? = some (IntKind.u8.wrap (IntKind.u64.wrap x / 4294967296))))))) ?_
 refine sv (v := (vI .u64 (IntKind.u64.wrap (IntKind.u8.wrap (IntKind.u64.wrap x / 4294967296))))) (x_convI rfl underlying5 underlying209 rfl) ?_
 refine sv (v := (vI .u64 (IntKind.u64.wrap x / 4294967296))) (x_bin rfl rfl ((by have h_ := or_byte (a := (IntKind.u64.wrap x / 1099511627776)) (b := (IntKind.u8.wrap (IntKind.u64.wrap x / 4294967296))) (r := (IntKind.u64.wrap x / 4294967296)) (by omega) (by omega) (by omega) (by omega) (by omega); exact congrArg (fun z => some (vI .u64 z)) h_))) ?_
 refine sv (v := (vI .u64 (IntKind.u64.wrap x / 4294967296))) (x_assign rfl) ?_
 refine wpList_nil (X_blkN (X_then (hK20_ _ _ ?_)))
 refine C_reg ?_
 refine sm (vI .i64 3) ?_
 refine sv (v := (vI .i64 4)) (x_bin rfl rfl (by rfl)) ?_
 refine sv (v := (vI .i64 4)) (x_assign rfl) ?_
 refine wpList_nil (X_then ?_)
 refine hK17_ _ _ ?_
 refine C_rounds (fun _ hK21_ => ?_)
 refine C_seq (fun _ hK22_ => ?_)
 refine cR fun _ hK23_ => ?_
 refine sm (vI .i64 4) ?_
 refine sv (v := (vB true)) (x_bin rfl rfl rfl) ?_
 refine wn (hK23_ _ _ ?_)
 refine C_condT rfl ?_
 refine C_skip (X_then (hK22_ _ _ ?_))
 refine C_seq (fun _ hK24_ => ?_)
 refine C_block ?_
 refine C_reg ?_
 refine sm (vI .u64 (IntKind.u64.wrap x / 4294967296)) ?_
 refine sv (v := (vI .u64 (IntKind.u64.wrap ((IntKind.u64.wrap x / 4294967296) * 256)))) (x_shl rfl rfl (by omega) rfl) ?_
 refine sv (v := v) (x_move rfl) ?_
 refine sm (vI .i64 4) ?_
 refine sv (v := (vP (some ⟨(sb v), so v + 4, none⟩))) (x_idxRS (v := v) rfl hV rfl underlying101 z5 (by omega) (by omega) (by omega : _ = 4) (by rw [Nat.mul_one])) ?_
 refine sv (v := (vI .u8 (IntKind.u8.wrap (IntKind.u64.wrap x / 16777216)))) (x_load1 rfl underlying5 rfl (RC.cell (RS.rc hV) (Holds.ro_at H 0 rfl) (j := 4) (u := (vI .u8 (IntKind.u8.wrap (IntKind.u64.wrap x / 16777216)))) ((map_at (rfl : (be8 x ++ rest)[4]? = some (IntKind.u8.wrap (IntKind.u64.wrap x / 16777216))))))) ?_
 refine sv (v := (vI .u64 (IntKind.u64.wrap (IntKind.u8.wrap (IntKind.u64.wrap x / 16777216))))) (x_convI rfl underlying5 underlying209 rfl) ?_
 refine sv (v := (vI .u64 (IntKind.u64.wrap x / 16777216))) (x_bin rfl rfl ((by have h_ := or_byte (a := (IntKind.u64.wrap x / 4294967296)) (b := (IntKind.u8.wrap (IntKind.u64.wrap x / 16777216))) (r := (IntKind.u64.wrap x / 16777216)) (by omega) (by omega) (by omega) (by omega) (by omega); exact congrArg (fun z => some (vI .u64 z)) h_))) ?_
 refine sv (v := (vI .u64 (IntKind.u64.wrap x / 16777216))) (x_assign rfl) ?_
 refine wpList_nil (X_blkN (X_then (hK24_ _ _ ?_)))
 refine C_reg ?_
 refine sm (vI .i64 4) ?_
 refine sv (v := (vI .i64 5)) (x_bin rfl rfl (by rfl)) ?_
 refine sv (v := (vI .i64 5)) (x_assign rfl) ?_
 refine wpList_nil (X_then ?_)
 refine hK21_ _ _ ?_
 refine C_rounds (fun _ hK25_ => ?_)
 refine C_seq (fun _ hK26_ => ?_)
 refine cR fun _ hK27_ => ?_
 refine sm (vI .i64 5) ?_
 refine sv (v := (vB true)) (x_bin rfl rfl rfl) ?_
 refine wn (hK27_ _ _ ?_)
 refine C_condT rfl ?_
 refine C_skip (X_then (hK26_ _ _ ?_))
 refine C_seq (fun _ hK28_ => ?_)
 refine C_block ?_
 refine C_reg ?_
 refine sm (vI .u64 (IntKind.u64.wrap x / 16777216)) ?_
 refine sv (v := (vI .u64 (IntKind.u64.wrap ((IntKind.u64.wrap x / 16777216) * 256)))) (x_shl rfl rfl (by omega) rfl) ?_
 refine sv (v := v) (x_move rfl) ?_
 refine sm (vI .i64 5) ?_
 refine sv (v := (vP (some ⟨(sb v), so v + 5, none⟩))) (x_idxRS (v := v) rfl hV rfl underlying101 z5 (by omega) (by omega) (by omega : _ = 5) (by rw [Nat.mul_one])) ?_
 refine sv (v := (vI .u8 (IntKind.u8.wrap (IntKind.u64.wrap x / 65536)))) (x_load1 rfl underlying5 rfl (RC.cell (RS.rc hV) (Holds.ro_at H 0 rfl) (j := 5) (u := (vI .u8 (IntKind.u8.wrap (IntKind.u64.wrap x / 65536)))) ((map_at (rfl : (be8 x ++ rest)[5]? = some (IntKind.u8.wrap (IntKind.u64.wrap x / 65536))))))) ?_
 refine sv (v := (vI .u64 (IntKind.u64.wrap (IntKind.u8.wrap (IntKind.u64.wrap x / 65536))))) (x_convI rfl underlying5 underlying209 rfl) ?_
 refine sv (v := (vI .u64 (IntKind.u64.wrap x / 65536))) (x_bin rfl rfl ((by have h_ := or_byte (a := (IntKind.u64.wrap x / 16777216)) (b := (IntKind.u8.wrap (IntKind.u64.wrap x / 65536))) (r := (IntKind.u64.wrap x / 65536)) (by omega) (by omega) (by omega) (by omega) (by omega); exact congrArg (fun z => some (vI .u64 z)) h_))) ?_
 refine sv (v := (vI .u64 (IntKind.u64.wrap x / 65536))) (x_assign rfl) ?_
 refine wpList_nil (X_blkN (X_then (hK28_ _ _ ?_)))
 refine C_reg ?_
 refine sm (vI .i64 5) ?_
 refine sv (v := (vI .i64 6)) (x_bin rfl rfl (by rfl)) ?_
 refine sv (v := (vI .i64 6)) (x_assign rfl) ?_
 refine wpList_nil (X_then ?_)
 refine hK25_ _ _ ?_
 refine C_rounds (fun _ hK29_ => ?_)
 refine C_seq (fun _ hK30_ => ?_)
 refine cR fun _ hK31_ => ?_
 refine sm (vI .i64 6) ?_
 refine sv (v := (vB true)) (x_bin rfl rfl rfl) ?_
 refine wn (hK31_ _ _ ?_)
 refine C_condT rfl ?_
 refine C_skip (X_then (hK30_ _ _ ?_))
 refine C_seq (fun _ hK32_ => ?_)
 refine C_block ?_
 refine C_reg ?_
 refine sm (vI .u64 (IntKind.u64.wrap x / 65536)) ?_
 refine sv (v := (vI .u64 (IntKind.u64.wrap ((IntKind.u64.wrap x / 65536) * 256)))) (x_shl rfl rfl (by omega) rfl) ?_
 refine sv (v := v) (x_move rfl) ?_
 refine sm (vI .i64 6) ?_
 refine sv (v := (vP (some ⟨(sb v), so v + 6, none⟩))) (x_idxRS (v := v) rfl hV rfl underlying101 z5 (by omega) (by omega) (by omega : _ = 6) (by rw [Nat.mul_one])) ?_
 refine sv (v := (vI .u8 (IntKind.u8.wrap (IntKind.u64.wrap x / 256)))) (x_load1 rfl underlying5 rfl (RC.cell (RS.rc hV) (Holds.ro_at H 0 rfl) (j := 6) (u := (vI .u8 (IntKind.u8.wrap (IntKind.u64.wrap x / 256)))) ((map_at (rfl : (be8 x ++ rest)[6]? = some (IntKind.u8.wrap (IntKind.u64.wrap x / 256))))))) ?_
 refine sv (v := (vI .u64 (IntKind.u64.wrap (IntKind.u8.wrap (IntKind.u64.wrap x / 256))))) (x_convI rfl underlying5 underlying209 rfl) ?_
 refine sv (v := (vI .u64 (IntKind.u64.wrap x / 256))) (x_bin rfl rfl ((by have h_ := or_byte (a := (IntKind.u64.wrap x / 65536)) (b := (IntKind.u8.wrap (IntKind.u64.wrap x / 256))) (r := (IntKind.u64.wrap x / 256)) (by omega) (by omega) (by omega) (by omega) (by omega); exact congrArg (fun z => some (vI .u64 z)) h_))) ?_
 refine sv (v := (vI .u64 (IntKind.u64.wrap x / 256))) (x_assign rfl) ?_
 refine wpList_nil (X_blkN (X_then (hK32_ _ _ ?_)))
 refine C_reg ?_
 refine sm (vI .i64 6) ?_
 refine sv (v := (vI .i64 7)) (x_bin rfl rfl (by rfl)) ?_
 refine sv (v := (vI .i64 7)) (x_assign rfl) ?_
 refine wpList_nil (X_then ?_)
 refine hK29_ _ _ ?_
 refine C_rounds (fun _ hK33_ => ?_)
 refine C_seq (fun _ hK34_ => ?_)
 refine cR fun _ hK35_ => ?_
 refine sm (vI .i64 7) ?_
 refine sv (v := (vB true)) (x_bin rfl rfl rfl) ?_
 refine wn (hK35_ _ _ ?_)
 refine C_condT rfl ?_
 refine C_skip (X_then (hK34_ _ _ ?_))
 refine C_seq (fun _ hK36_ => ?_)
 refine C_block ?_
 refine C_reg ?_
 refine sm (vI .u64 (IntKind.u64.wrap x / 256)) ?_
 refine sv (v := (vI .u64 (IntKind.u64.wrap ((IntKind.u64.wrap x / 256) * 256)))) (x_shl rfl rfl (by omega) rfl) ?_
 refine sv (v := v) (x_move rfl) ?_
 refine sm (vI .i64 7) ?_
 refine sv (v := (vP (some ⟨(sb v), so v + 7, none⟩))) (x_idxRS (v := v) rfl hV rfl underlying101 z5 (by omega) (by omega) (by omega : _ = 7) (by rw [Nat.mul_one])) ?_
 refine sv (v := (vI .u8 (IntKind.u8.wrap (IntKind.u64.wrap x)))) (x_load1 rfl underlying5 rfl (RC.cell (RS.rc hV) (Holds.ro_at H 0 rfl) (j := 7) (u := (vI .u8 (IntKind.u8.wrap (IntKind.u64.wrap x)))) ((map_at (rfl : (be8 x ++ rest)[7]? = some (IntKind.u8.wrap (IntKind.u64.wrap x))))))) ?_
 refine sv (v := (vI .u64 (IntKind.u64.wrap (IntKind.u8.wrap (IntKind.u64.wrap x))))) (x_convI rfl underlying5 underlying209 rfl) ?_
 refine sv (v := (vI .u64 (IntKind.u64.wrap x))) (x_bin rfl rfl ((by have h_ := or_byte (a := (IntKind.u64.wrap x / 256)) (b := (IntKind.u8.wrap (IntKind.u64.wrap x))) (r := IntKind.u64.wrap x) (by omega) (by omega) (by omega) (by omega) (by omega); exact congrArg (fun z => some (vI .u64 z)) h_))) ?_
 refine sv (v := (vI .u64 (IntKind.u64.wrap x))) (x_assign rfl) ?_
 refine wpList_nil (X_blkN (X_then (hK36_ _ _ ?_)))
 refine C_reg ?_
 refine sm (vI .i64 7) ?_
 refine sv (v := (vI .i64 8)) (x_bin rfl rfl (by rfl)) ?_
 refine sv (v := (vI .i64 8)) (x_assign rfl) ?_
 refine wpList_nil (X_then ?_)
 refine hK33_ _ _ ?_
 refine C_rounds (fun _ hK37_ => ?_)
 refine C_seq (fun _ hK38_ => ?_)
 refine cR fun _ hK39_ => ?_
 refine sm (vI .i64 8) ?_
 refine sv (v := (vB false)) (x_bin rfl rfl rfl) ?_
 refine wn (hK39_ _ _ ?_)
 refine C_condF rfl ?_
 refine C_exit (X_thenX (X_thenX (X_blkHit ?_)))
 refine (X_then (hK3_ _ _ ?_))
 refine cR fun _ hK40_ => ?_
 refine sm (vI .u64 (IntKind.u64.wrap x)) ?_
 refine sv (v := (vI .u64 (IntKind.u64.wrap x))) (x_assign rfl) ?_
 refine wn (hK40_ _ _ ?_)
 refine C_ret ?_
 refine R_any (v := (vI .u64 (IntKind.u64.wrap x))) (run_results1 rfl rfl) ?_
 exact ⟨_, _, rfl, ⟨rfl, rfl⟩, (Same.refl w), H⟩

set_option maxHeartbeats 1600000 in
theorem hBack_false (R : HP) (v : Value) (m s : Int) (hV : RS R 1 v 17 (bytesV (rkey m s false))) (hm0 : 0 ≤ m) (hm1 : m < 9223372036854775808) (hs0 : 0 ≤ s) (hs1 : s < 9223372036854775808) :
    Tri Tryz.prog 110 #[v] R [] (fun v__ post__ => v__ = (vA #[(vI .i64 m), (vI .i64 s), (vB false)]) ∧ post__ = []) := by
 refine Tri.into (n := 40) (al := [v]) func110 rfl ntmps110 rfl rfl fun w F H => ?_
 refine cR fun _ hK1_ => ?_
 refine S_list (T_alloc z123 H ?_)
 intro b2_ w3_ S5_ H4_
 have S6_ := Same.trans (Same.refl w) S5_
 refine wn (hK1_ _ _ ?_)
 refine C_seq (fun _ hK7_ => ?_)
 refine cR fun _ hK8_ => ?_
 refine sv (v := v) (x_move rfl) ?_
 refine sv (v := (vI .i64 17)) (x_lenRS rfl hV underlying101) ?_
 refine sv (v := (vB false)) (x_bin rfl rfl rfl) ?_
 refine sm (vB false) ?_
 refine S_no (j := 3) (dj := 8) (b := false) rfl rfl rfl (by decide) ?_
 refine S_no (j := 3) (dj := 8) (b := false) rfl rfl rfl (by decide) ?_
 refine S_no (j := 3) (dj := 8) (b := false) rfl rfl rfl (by decide) ?_
 refine S_list (T_pickF (v := (vB false)) rfl rfl ?_)
 refine wn (hK8_ _ _ ?_)
 refine C_condF rfl ?_
 refine C_skip (X_then (hK7_ _ _ ?_))
 refine C_seq (fun _ hK9_ => ?_)
 refine cR fun _ hK10_ => ?_
 refine sv (v := v) (x_move rfl) ?_
 refine sv (v := (vP (some ⟨(sb v), so v + 8, none⟩))) (x_idxRS (v := v) rfl hV rfl underlying101 z5 (by omega) (by omega) (by omega : _ = 8) (by rw [Nat.mul_one])) ?_
 refine sv (v := (vI .u8 95)) (x_load1 rfl underlying5 rfl (RC.cell (RS.rc hV) (Holds.ro_at H4_ 1 rfl) (j := 8) (u := (vI .u8 95)) ((map_at (rfl : (rkey m s false)[8]? = some 95))))) ?_
 refine sv (v := (vB false)) (x_bin rfl rfl rfl) ?_
 refine wn (hK10_ _ _ ?_)
 refine C_condF rfl ?_
 refine C_skip (X_then (hK9_ _ _ ?_))
 refine cR fun _ hK11_ => ?_
 refine sv (v := v) (x_move rfl) ?_
 refine sv (v := (slc v 0 8 1)) (x_sliceRS (l := 0) (h := 8) rfl hV underlying101 z5 (by omega) ⟨_, _, rfl, by omega, by omega, by omega⟩ ⟨_, _, rfl, by omega, by omega, by omega⟩) ?_
 have H13_ := ((Holds.bring H4_ 1 rfl) :)
 refine S_list (T_call (al := [((slc v 0 8 1))]) (pre := []) rfl (lcons (rfl : (slc v 0 8 1) = ((slc v 0 8 1))) rfl) cb121 (hU64 R (slc v 0 8 1) m (8 - 0) ([] : List Int) (RS.set_ (RS.slcB hV (by omega : 0 ≤ 8) (by omega : 8 ≤ 17)) (by first | rfl | (simp [GW.cells, GO.cells, GA.cells]; done)) rfl) (by first | assumption | omega)) H13_ ?_)
 rintro v12_ p17_ w14_ ⟨rfl, rfl⟩ S16_ H15_
 have S18_ := Same.trans S6_ S16_
 refine sv (v := (vI .i64 m)) (x_convI rfl underlying209 underlying2 (i64_u64 hm0 hm1)) ?_
 refine sv (v := (vI .i64 m)) (x_assign rfl) ?_
 refine wn (hK11_ _ _ ?_)
 refine cR fun _ hK19_ => ?_
 refine sv (v := v) (x_move rfl) ?_
 refine sv (v := (slc v 9 17 1)) (x_sliceRS (l := 9) (h := 17) rfl hV underlying101 z5 (by omega) rfl ⟨_, _, rfl, by omega, by omega, by omega⟩) ?_
 refine S_list (T_call (al := [((slc v 9 17 1))]) (pre := []) rfl (lcons (rfl : (slc v 9 17 1) = ((slc v 9 17 1))) rfl) cb121 (hU64 R (slc v 9 17 1) s (17 - 9) ([] : List Int) (RS.set_ (RS.slcB hV (by omega : 9 ≤ 17) (by omega : 17 ≤ 17)) (by first | rfl | (simp [GW.cells, GO.cells, GA.cells]; done)) rfl) (by first | assumption | omega)) H15_ ?_)
 rintro v20_ p24_ w21_ ⟨rfl, rfl⟩ S23_ H22_
 have S25_ := Same.trans S18_ S23_
 refine sv (v := (vI .i64 s)) (x_convI rfl underlying209 underlying2 (i64_u64 hs0 hs1)) ?_
 refine sv (v := (vI .i64 s)) (x_assign rfl) ?_
 refine wn (hK19_ _ _ ?_)
 refine C_seq (fun _ hK26_ => ?_)
 refine cR fun _ hK27_ => ?_
 refine sm (vI .i64 m) ?_
 refine sv (v := (vB (decide (m < 0)))) (x_bin rfl rfl rfl) ?_
 refine sm (vB (decide (m < 0))) ?_
 rcases Bool.eq_false_or_eq_true (decide (m < 0)) with c28_t | c28_f
 ·have c28_tp : m < 0 := of_decide_eq_true c28_t
  omega
 ·have c28_fp : ¬ (m < 0) := of_decide_eq_false c28_f
  refine S_yes (j := 2) (dj := 29) (b := false) rfl rfl (congrArg vB c28_f) (T_val (v := (vI .i64 s)) (x_move rfl) ?_)
  refine S_yes (j := 2) (dj := 29) (b := false) rfl rfl (congrArg vB c28_f) (T_val (v := (vB (decide (s < 0)))) (x_bin rfl rfl rfl) ?_)
  refine S_list (T_pickF (v := (vB (decide (s < 0)))) (congrArg vB c28_f) rfl ?_)
  refine wn (hK27_ _ _ ?_)
  refine C_cond (b := decide (s < 0)) rfl (fun c29_t => ?_) (fun c29_f => ?_)
  ·have c29_tp : s < 0 := of_decide_eq_true c29_t
   omega
  ·have c29_fp : ¬ (s < 0) := of_decide_eq_false c29_f
   refine C_skip (X_then (hK26_ _ _ ?_))
   refine cR fun _ hK30_ => ?_
   refine sm (vI .i64 m) ?_
   refine sm (vI .i64 s) ?_
   refine sv (v := (vA #[(vI .i64 m), (vI .i64 s)])) (by kernel_rfl) ?_
   refine sv (v := v) (x_move rfl) ?_
   refine S_list (T_callW (al := [v]) rfl rfl cb78 (Calls.into (n := 12) func78 rfl ntmps78 rfl rfl ?_))
   refine cR fun _ hK31_ => ?_
   refine sv (v := (vB false)) (x_assign rfl) ?_
   refine wn (hK31_ _ _ ?_)
   refine cR fun _ hK32_ => ?_
   refine sv (v := v) (x_move rfl) ?_
   refine sv (v := (vI .i64 17)) (x_lenRS rfl hV underlying101) ?_
   refine sv (v := (vB false)) (x_bin rfl rfl rfl) ?_
   refine sm (vB false) ?_
   refine S_no (j := 3) (dj := 6) (b := false) rfl rfl rfl (by decide) ?_
   refine S_no (j := 3) (dj := 6) (b := false) rfl rfl rfl (by decide) ?_
   refine S_no (j := 3) (dj := 6) (b := false) rfl rfl rfl (by decide) ?_
   refine S_no (j := 3) (dj := 6) (b := false) rfl rfl rfl (by decide) ?_
   refine S_list (T_pickF (v := (vB false)) rfl rfl ?_)
   refine sv (v := (vB false)) (x_assign rfl) ?_
   refine wn (hK32_ _ _ ?_)
   refine C_ret ?_
   refine R_any (v := (vB false)) (run_results1 rfl rfl) ⟨_, rfl, ?_⟩
   refine sv (v := (vA #[(vI .i64 m), (vI .i64 s), (vB false)])) (by kernel_rfl) ?_
   refine S_list0 (T_storeN (vs := [(vI .i64 m), (vI .i64 s), (vB false)]) rfl rfl z123 rfl (by simp [Value.oneCell']) H22_ 1 rfl (Nat.le_of_ble_eq_true (by rfl)) ?_)
   intro w33_ S35_ H34_
   have S36_ := Same.trans S25_ S35_
   refine wn (hK30_ _ _ ?_)
   refine C_ret ?_
   refine R_any (v := (vA #[(vI .i64 m), (vI .i64 s), (vB false)])) (run_results1 rfl ⟨_, rfl, load_resN underlying123 rfl z123 rfl (vs := [(vI .i64 m), (vI .i64 s), (vB false)]) (Holds.cl_cells H34_ 1 rfl 0 rfl)⟩) ?_
   have H37_ := Holds.pkF H34_ [0] 1
   exact ⟨_, _, rfl, ⟨rfl, rfl⟩, S36_, H37_⟩

set_option maxHeartbeats 1600000 in
theorem hBack_true (R : HP) (v : Value) (m s : Int) (hV : RS R 1 v 18 (bytesV (rkey m s true))) (hm0 : 0 ≤ m) (hm1 : m < 9223372036854775808) (hs0 : 0 ≤ s) (hs1 : s < 9223372036854775808) :
    Tri Tryz.prog 110 #[v] R [] (fun v__ post__ => v__ = (vA #[(vI .i64 m), (vI .i64 s), (vB true)]) ∧ post__ = []) := by
 refine Tri.into (n := 40) (al := [v]) func110 rfl ntmps110 rfl rfl fun w F H => ?_
 refine cR fun _ hK1_ => ?_
 refine S_list (T_alloc z123 H ?_)
 intro b2_ w3_ S5_ H4_
 have S6_ := Same.trans (Same.refl w) S5_
 refine wn (hK1_ _ _ ?_)
 refine C_seq (fun _ hK7_ => ?_)
 refine cR fun _ hK8_ => ?_
 refine sv (v := v) (x_move rfl) ?_
 refine sv (v := (vI .i64 18)) (x_lenRS rfl hV underlying101) ?_
 refine sv (v := (vB true)) (x_bin rfl rfl rfl) ?_
 refine sm (vB true) ?_
 refine S_yes (j := 3) (dj := 8) (b := true) rfl rfl rfl (T_val (v := v) (x_move rfl) ?_)
 refine S_yes (j := 3) (dj := 8) (b := true) rfl rfl rfl (T_val (v := (vI .i64 18)) (x_lenRS rfl hV underlying101) ?_)
 refine S_yes (j := 3) (dj := 8) (b := true) rfl rfl rfl (T_val (v := (vB false)) (x_bin rfl rfl rfl) ?_)
 refine S_list (T_pickT (v := (vB false)) rfl rfl ?_)
 refine wn (hK8_ _ _ ?_)
 refine C_condF rfl ?_
 refine C_skip (X_then (hK7_ _ _ ?_))
 refine C_seq (fun _ hK9_ => ?_)
 refine cR fun _ hK10_ => ?_
 refine sv (v := v) (x_move rfl) ?_
 refine sv (v := (vP (some ⟨(sb v), so v + 8, none⟩))) (x_idxRS (v := v) rfl hV rfl underlying101 z5 (by omega) (by omega) (by omega : _ = 8) (by rw [Nat.mul_one])) ?_
 refine sv (v := (vI .u8 95)) (x_load1 rfl underlying5 rfl (RC.cell (RS.rc hV) (Holds.ro_at H4_ 1 rfl) (j := 8) (u := (vI .u8 95)) ((map_at (rfl : (rkey m s true)[8]? = some 95))))) ?_
 refine sv (v := (vB false)) (x_bin rfl rfl rfl) ?_
 refine wn (hK10_ _ _ ?_)
 refine C_condF rfl ?_
 refine C_skip (X_then (hK9_ _ _ ?_))
 refine cR fun _ hK11_ => ?_
 refine sv (v := v) (x_move rfl) ?_
 refine sv (v := (slc v 0 8 1)) (x_sliceRS (l := 0) (h := 8) rfl hV underlying101 z5 (by omega) ⟨_, _, rfl, by omega, by omega, by omega⟩ ⟨_, _, rfl, by omega, by omega, by omega⟩) ?_
 have H13_ := ((Holds.bring H4_ 1 rfl) :)
 refine S_list (T_call (al := [((slc v 0 8 1))]) (pre := []) rfl (lcons (rfl : (slc v 0 8 1) = ((slc v 0 8 1))) rfl) cb121 (hU64 R (slc v 0 8 1) m (8 - 0) ([] : List Int) (RS.set_ (RS.slcB hV (by omega : 0 ≤ 8) (by omega : 8 ≤ 18)) (by first | rfl | (simp [GW.cells, GO.cells, GA.cells]; done)) rfl) (by first | assumption | omega)) H13_ ?_)
 rintro v12_ p17_ w14_ ⟨rfl, rfl⟩ S16_ H15_
 have S18_ := Same.trans S6_ S16_
 refine sv (v := (vI .i64 m)) (x_convI rfl underlying209 underlying2 (i64_u64 hm0 hm1)) ?_
 refine sv (v := (vI .i64 m)) (x_assign rfl) ?_
 refine wn (hK11_ _ _ ?_)
 refine cR fun _ hK19_ => ?_
 refine sv (v := v) (x_move rfl) ?_
 refine sv (v := (slc v 9 18 1)) (x_sliceRS (l := 9) (h := 18) rfl hV underlying101 z5 (by omega) rfl ⟨_, _, rfl, by omega, by omega, by omega⟩) ?_
 refine S_list (T_call (al := [((slc v 9 18 1))]) (pre := []) rfl (lcons (rfl : (slc v 9 18 1) = ((slc v 9 18 1))) rfl) cb121 (hU64 R (slc v 9 18 1) s (18 - 9) [116] (RS.set_ (RS.slcB hV (by omega : 9 ≤ 18) (by omega : 18 ≤ 18)) (by first | rfl | (simp [GW.cells, GO.cells, GA.cells]; done)) rfl) (by first | assumption | omega)) H15_ ?_)
 rintro v20_ p24_ w21_ ⟨rfl, rfl⟩ S23_ H22_
 have S25_ := Same.trans S18_ S23_
 refine sv (v := (vI .i64 s)) (x_convI rfl underlying209 underlying2 (i64_u64 hs0 hs1)) ?_
 refine sv (v := (vI .i64 s)) (x_assign rfl) ?_
 refine wn (hK19_ _ _ ?_)
 refine C_seq (fun _ hK26_ => ?_)
 refine cR fun _ hK27_ => ?_
 refine sm (vI .i64 m) ?_
 refine sv (v := (vB (decide (m < 0)))) (x_bin rfl rfl rfl) ?_
 refine sm (vB (decide (m < 0))) ?_
 rcases Bool.eq_false_or_eq_true (decide (m < 0)) with c28_t | c28_f
 ·have c28_tp : m < 0 := of_decide_eq_true c28_t
  omega
 ·have c28_fp : ¬ (m < 0) := of_decide_eq_false c28_f
  refine S_yes (j := 2) (dj := 29) (b := false) rfl rfl (congrArg vB c28_f) (T_val (v := (vI .i64 s)) (x_move rfl) ?_)
  refine S_yes (j := 2) (dj := 29) (b := false) rfl rfl (congrArg vB c28_f) (T_val (v := (vB (decide (s < 0)))) (x_bin rfl rfl rfl) ?_)
  refine S_list (T_pickF (v := (vB (decide (s < 0)))) (congrArg vB c28_f) rfl ?_)
  refine wn (hK27_ _ _ ?_)
  refine C_cond (b := decide (s < 0)) rfl (fun c29_t => ?_) (fun c29_f => ?_)
  ·have c29_tp : s < 0 := of_decide_eq_true c29_t
   omega
  ·have c29_fp : ¬ (s < 0) := of_decide_eq_false c29_f
   refine C_skip (X_then (hK26_ _ _ ?_))
   refine cR fun _ hK30_ => ?_
   refine sm (vI .i64 m) ?_
   refine sm (vI .i64 s) ?_
   refine sv (v := (vA #[(vI .i64 m), (vI .i64 s)])) (by kernel_rfl) ?_
   refine sv (v := v) (x_move rfl) ?_
   refine S_list (T_callW (al := [v]) rfl rfl cb78 (Calls.into (n := 12) func78 rfl ntmps78 rfl rfl ?_))
   refine cR fun _ hK31_ => ?_
   refine sv (v := (vB false)) (x_assign rfl) ?_
   refine wn (hK31_ _ _ ?_)
   refine cR fun _ hK32_ => ?_
   refine sv (v := v) (x_move rfl) ?_
   refine sv (v := (vI .i64 18)) (x_lenRS rfl hV underlying101) ?_
   refine sv (v := (vB true)) (x_bin rfl rfl rfl) ?_
   refine sm (vB true) ?_
   refine S_yes (j := 3) (dj := 6) (b := true) rfl rfl rfl (T_val (v := v) (x_move rfl) ?_)
   refine S_yes (j := 3) (dj := 6) (b := true) rfl rfl rfl (T_val (v := (vP (some ⟨(sb v), so v + 17, none⟩))) (x_idxRS (v := v) rfl hV rfl underlying101 z5 (by omega) (by omega) (by omega : _ = 17) (by rw [Nat.mul_one])) ?_)
   refine S_yes (j := 3) (dj := 6) (b := true) rfl rfl rfl (T_val (v := (vI .u8 116)) (x_load1 rfl underlying5 rfl (RC.cell (RS.rc hV) (Holds.ro_at H22_ 0 rfl) (j := 17) (u := (vI .u8 116)) ((map_at (rfl : (rkey m s true)[17]? = some 116))))) ?_)
   refine S_yes (j := 3) (dj := 6) (b := true) rfl rfl rfl (T_val (v := (vB true)) (x_bin rfl rfl rfl) ?_)
   refine S_list (T_pickT (v := (vB true)) rfl rfl ?_)
   refine sv (v := (vB true)) (x_assign rfl) ?_
   refine wn (hK32_ _ _ ?_)
   refine C_ret ?_
   refine R_any (v := (vB true)) (run_results1 rfl rfl) ⟨_, rfl, ?_⟩
   refine sv (v := (vA #[(vI .i64 m), (vI .i64 s), (vB true)])) (by kernel_rfl) ?_
   refine S_list0 (T_storeN (vs := [(vI .i64 m), (vI .i64 s), (vB true)]) rfl rfl z123 rfl (by simp [Value.oneCell']) H22_ 1 rfl (Nat.le_of_ble_eq_true (by rfl)) ?_)
   intro w33_ S35_ H34_
   have S36_ := Same.trans S25_ S35_
   refine wn (hK30_ _ _ ?_)
   refine C_ret ?_
   refine R_any (v := (vA #[(vI .i64 m), (vI .i64 s), (vB true)])) (run_results1 rfl ⟨_, rfl, load_resN underlying123 rfl z123 rfl (vs := [(vI .i64 m), (vI .i64 s), (vB true)]) (Holds.cl_cells H34_ 1 rfl 0 rfl)⟩) ?_
   have H37_ := Holds.pkF H34_ [0] 1
   exact ⟨_, _, rfl, ⟨rfl, rfl⟩, S36_, H37_⟩

theorem hBack (R : HP) (v : Value) (m s : Int) (t : Bool) (hV : RS R 1 v (rkey m s t).length (bytesV (rkey m s t))) (hm0 : 0 ≤ m) (hm1 : m < 9223372036854775808) (hs0 : 0 ≤ s) (hs1 : s < 9223372036854775808) :
    Tri Tryz.prog 110 #[v] R [] (fun v__ post__ => v__ = (vA #[(vI .i64 m), (vI .i64 s), (vB t)]) ∧ post__ = []) := by
  cases t
  · exact hBack_false R v m s hV hm0 hm1 hs0 hs1
  · exact hBack_true R v m s hV hm0 hm1 hs0 hs1
end Go.Proofs.YtlnihndjepjagaaGreat
set_option linter.unusedVariables false
set_option linter.unusedSimpArgs false
namespace Go.Proofs.YtlnihndjepjagaaGreat
open Go Go.RowKit Gw Tryz
open Go.Value renaming int → vI, bool → vB, slice → vS, pointer → vP, agg → vA, tuple → vT

def pint (f : Nat) (n : Int) : List Int := if n = 0 then [] else vint (f * 8) ++ vi n
def pbyt (f : Nat) (u : List Int) : List Int := if u = [] then [] else vint (f * 8 + 2) ++ vi u.length ++ u
def kvb (k v : List Int) (c m n l : Int) : List Int := pbyt 1 k ++ pint 2 c ++ pint 3 m ++ pint 4 n ++ pbyt 5 v ++ pint 6 l
theorem pint_len (f : Nat) (n : Int) (h : f * 8 < 18446744073709551616) : (pint f n).length ≤ 20 := by
  unfold pint
  split
  · simp
  · have h1 := vint_len10 h
    have h2 := vi_len n
    rw [List.length_append]; omega
theorem pbyt_pos {f : Nat} {u : List Int} (h : (0 : Int) < (u.length : Int)) : pbyt f u = vint (f * 8 + 2) ++ vi u.length ++ u := by
  unfold pbyt; rw [if_neg (fun e => by rw [e] at h; simp at h)]
theorem pbyt_len (f : Nat) (u : List Int) (h : f * 8 + 2 < 18446744073709551616) : (pbyt f u).length ≤ 20 + u.length := by
  unfold pbyt
  split
  · simp
  · have h1 := vint_len10 h
    have h2 := vi_len u.length
    rw [List.length_append, List.length_append]; omega

set_option maxHeartbeats 1600000 in
theorem hInt2 (R : HP) (v : Value) (ns : List Int) (n : Int) (q0 : ns.length ≤ 1000000) :
    Tri Tryz.prog 143 #[v, (vI .i64 2), (vI .i64 n)] R [sl 5 1 v (List.length ns) (bytesV ns)] (fun v__ post__ => ∃ (v' : Value), v__ = v' ∧ post__ = [sl 5 1 v' (List.length (ns ++ pint 2 n)) (bytesV (ns ++ pint 2 n))]) := by
 have hun := u64_range n
 have hv8 := vint_len10 (n := 16) (by omega)
 refine Tri.into (n := 19) (al := [v, (vI .i64 2), (vI .i64 n)]) func143 rfl ntmps143 rfl rfl fun w F H => ?_
 refine cR fun _ hK1_ => ?_
 refine sv (v := (vS none 0 0)) (x_assign rfl) ?_
 refine wn (hK1_ _ _ ?_)
 refine C_seq (fun _ hK2_ => ?_)
 refine cR fun _ hK3_ => ?_
 refine sm (vI .i64 n) ?_
 refine sv (v := (vB (decide (n = 0)))) (x_bin rfl rfl rfl) ?_
 refine wn (hK3_ _ _ ?_)
 refine C_cond (b := decide (n = 0)) rfl (fun c4_t => ?_) (fun c4_f => ?_)
 ·have c4_tp : n = 0 := of_decide_eq_true c4_t
  refine cR fun _ hK5_ => ?_
  refine sv (v := v) (x_move rfl) ?_
  refine sv (v := v) (x_assign rfl) ?_
  refine wn (hK5_ _ _ ?_)
  refine C_ret (X_thenR ?_)
  refine R_any (v := v) (run_results1 rfl rfl) ?_
  have H6_ := Holds.resl H 1 rfl ((by simp [pint, c4_tp]) : bytesV ns = bytesV (ns ++ pint 2 n)) ((by simp [pint, c4_tp]) : (List.length ns) = (List.length (ns ++ pint 2 n)))
  exact ⟨_, _, rfl, ⟨v, rfl, rfl⟩, (Same.refl w), H6_⟩
 ·have c4_fp : ¬ (n = 0) := of_decide_eq_false c4_f
  refine C_skip (X_then (hK2_ _ _ ?_))
  refine cR fun _ hK7_ => ?_
  refine sv (v := v) (x_move rfl) ?_
  refine sm (vI .i64 2) ?_
  refine sv (v := (vI .u64 2)) (x_convI rfl underlying3 underlying209 (by decide)) ?_
  refine sv (v := (vI .u64 16)) (x_shl rfl rfl (by decide) (by decide)) ?_
  refine S_list (T_call (al := [v, (vI .u64 (16 : Int))]) (pre := [sl 5 1 v (List.length ns) (bytesV ns)]) rfl (lcons rfl (lcons (congrArg (vI .u64) ((by first | rfl | omega | (simp; done) | (simp; omega)) : 16 = (16 : Int))) rfl)) cb145 (wVint R v ns 16 (by first | assumption | omega) (by first | assumption | omega)) H ?_)
  rintro v8_ p12_ w9_ ⟨_, rfl, rfl⟩ S11_ H10_
  have S13_ := Same.trans (Same.refl w) S11_
  refine sv (v := v8_) (x_assign rfl) ?_
  refine wn (hK7_ _ _ ?_)
  refine cR fun _ hK14_ => ?_
  refine sv (v := v8_) (x_move rfl) ?_
  refine sm (vI .i64 n) ?_
  refine sv (v := (vI .u64 (IntKind.u64.wrap n))) (x_convI rfl underlying2 underlying209 rfl) ?_
  refine S_list (T_call (al := [v8_, (vI .u64 (((IntKind.u64.wrap n).toNat : Nat) : Int))]) (pre := [sl 5 1 v8_ (List.length (ns ++ vint 16)) (bytesV (ns ++ vint 16))]) rfl (lcons rfl (lcons (congrArg (vI .u64) ((by first | rfl | omega | (simp; done) | (simp; omega)) : IntKind.u64.wrap n = (((IntKind.u64.wrap n).toNat : Nat) : Int))) rfl)) cb145 (wVint R v8_ (ns ++ vint 16) ((IntKind.u64.wrap n).toNat) (by first | assumption | omega) (by rw [List.length_append]; omega)) H10_ ?_)
  rintro v15_ p19_ w16_ ⟨_, rfl, rfl⟩ S18_ H17_
  have S20_ := Same.trans S13_ S18_
  refine sv (v := v15_) (x_assign rfl) ?_
  refine wn (hK14_ _ _ ?_)
  refine C_ret ?_
  refine R_any (v := v15_) (run_results1 rfl rfl) ?_
  have H21_ := Holds.resl H17_ 1 rfl ((by simp [pint, c4_fp, vi]) : bytesV ((ns ++ vint 16) ++ vint ((IntKind.u64.wrap n).toNat)) = bytesV (ns ++ pint 2 n)) ((by simp [pint, c4_fp, vi]) : (List.length ((ns ++ vint 16) ++ vint ((IntKind.u64.wrap n).toNat))) = (List.length (ns ++ pint 2 n)))
  exact ⟨_, _, rfl, ⟨v15_, rfl, rfl⟩, S20_, H21_⟩

set_option maxHeartbeats 1600000 in
theorem hInt3 (R : HP) (v : Value) (ns : List Int) (n : Int) (q0 : ns.length ≤ 1000000) :
    Tri Tryz.prog 143 #[v, (vI .i64 3), (vI .i64 n)] R [sl 5 1 v (List.length ns) (bytesV ns)] (fun v__ post__ => ∃ (v' : Value), v__ = v' ∧ post__ = [sl 5 1 v' (List.length (ns ++ pint 3 n)) (bytesV (ns ++ pint 3 n))]) := by
 have hun := u64_range n
 have hv8 := vint_len10 (n := 24) (by omega)
 refine Tri.into (n := 19) (al := [v, (vI .i64 3), (vI .i64 n)]) func143 rfl ntmps143 rfl rfl fun w F H => ?_
 refine cR fun _ hK1_ => ?_
 refine sv (v := (vS none 0 0)) (x_assign rfl) ?_
 refine wn (hK1_ _ _ ?_)
 refine C_seq (fun _ hK2_ => ?_)
 refine cR fun _ hK3_ => ?_
 refine sm (vI .i64 n) ?_
 refine sv (v := (vB (decide (n = 0)))) (x_bin rfl rfl rfl) ?_
 refine wn (hK3_ _ _ ?_)
 refine C_cond (b := decide (n = 0)) rfl (fun c4_t => ?_) (fun c4_f => ?_)
 ·have c4_tp : n = 0 := of_decide_eq_true c4_t
  refine cR fun _ hK5_ => ?_
  refine sv (v := v) (x_move rfl) ?_
  refine sv (v := v) (x_assign rfl) ?_
  refine wn (hK5_ _ _ ?_)
  refine C_ret (X_thenR ?_)
  refine R_any (v := v) (run_results1 rfl rfl) ?_
  have H6_ := Holds.resl H 1 rfl ((by simp [pint, c4_tp]) : bytesV ns = bytesV (ns ++ pint 3 n)) ((by simp [pint, c4_tp]) : (List.length ns) = (List.length (ns ++ pint 3 n)))
  exact ⟨_, _, rfl, ⟨v, rfl, rfl⟩, (Same.refl w), H6_⟩
 ·have c4_fp : ¬ (n = 0) := of_decide_eq_false c4_f
  refine C_skip (X_then (hK2_ _ _ ?_))
  refine cR fun _ hK7_ => ?_
  refine sv (v := v) (x_move rfl) ?_
  refine sm (vI .i64 3) ?_
  refine sv (v := (vI .u64 3)) (x_convI rfl underlying3 underlying209 (by decide)) ?_
  refine sv (v := (vI .u64 24)) (x_shl rfl rfl (by decide) (by decide)) ?_
  refine S_list (T_call (al := [v, (vI .u64 (24 : Int))]) (pre := [sl 5 1 v (List.length ns) (bytesV ns)]) rfl (lcons rfl (lcons (congrArg (vI .u64) ((by first | rfl | omega | (simp; done) | (simp; omega)) : 24 = (24 : Int))) rfl)) cb145 (wVint R v ns 24 (by first | assumption | omega) (by first | assumption | omega)) H ?_)
  rintro v8_ p12_ w9_ ⟨_, rfl, rfl⟩ S11_ H10_
  have S13_ := Same.trans (Same.refl w) S11_
  refine sv (v := v8_) (x_assign rfl) ?_
  refine wn (hK7_ _ _ ?_)
  refine cR fun _ hK14_ => ?_
  refine sv (v := v8_) (x_move rfl) ?_
  refine sm (vI .i64 n) ?_
  refine sv (v := (vI .u64 (IntKind.u64.wrap n))) (x_convI rfl underlying2 underlying209 rfl) ?_
  refine S_list (T_call (al := [v8_, (vI .u64 (((IntKind.u64.wrap n).toNat : Nat) : Int))]) (pre := [sl 5 1 v8_ (List.length (ns ++ vint 24)) (bytesV (ns ++ vint 24))]) rfl (lcons rfl (lcons (congrArg (vI .u64) ((by first | rfl | omega | (simp; done) | (simp; omega)) : IntKind.u64.wrap n = (((IntKind.u64.wrap n).toNat : Nat) : Int))) rfl)) cb145 (wVint R v8_ (ns ++ vint 24) ((IntKind.u64.wrap n).toNat) (by first | assumption | omega) (by rw [List.length_append]; omega)) H10_ ?_)
  rintro v15_ p19_ w16_ ⟨_, rfl, rfl⟩ S18_ H17_
  have S20_ := Same.trans S13_ S18_
  refine sv (v := v15_) (x_assign rfl) ?_
  refine wn (hK14_ _ _ ?_)
  refine C_ret ?_
  refine R_any (v := v15_) (run_results1 rfl rfl) ?_
  have H21_ := Holds.resl H17_ 1 rfl ((by simp [pint, c4_fp, vi]) : bytesV ((ns ++ vint 24) ++ vint ((IntKind.u64.wrap n).toNat)) = bytesV (ns ++ pint 3 n)) ((by simp [pint, c4_fp, vi]) : (List.length ((ns ++ vint 24) ++ vint ((IntKind.u64.wrap n).toNat))) = (List.length (ns ++ pint 3 n)))
  exact ⟨_, _, rfl, ⟨v15_, rfl, rfl⟩, S20_, H21_⟩

set_option maxHeartbeats 1600000 in
theorem hInt4 (R : HP) (v : Value) (ns : List Int) (n : Int) (q0 : ns.length ≤ 1000000) :
    Tri Tryz.prog 143 #[v, (vI .i64 4), (vI .i64 n)] R [sl 5 1 v (List.length ns) (bytesV ns)] (fun v__ post__ => ∃ (v' : Value), v__ = v' ∧ post__ = [sl 5 1 v' (List.length (ns ++ pint 4 n)) (bytesV (ns ++ pint 4 n))]) := by
 have hun := u64_range n
 have hv8 := vint_len10 (n := 32) (by omega)
 refine Tri.into (n := 19) (al := [v, (vI .i64 4), (vI .i64 n)]) func143 rfl ntmps143 rfl rfl fun w F H => ?_
 refine cR fun _ hK1_ => ?_
 refine sv (v := (vS none 0 0)) (x_assign rfl) ?_
 refine wn (hK1_ _ _ ?_)
 refine C_seq (fun _ hK2_ => ?_)
 refine cR fun _ hK3_ => ?_
 refine sm (vI .i64 n) ?_
 refine sv (v := (vB (decide (n = 0)))) (x_bin rfl rfl rfl) ?_
 refine wn (hK3_ _ _ ?_)
 refine C_cond (b := decide (n = 0)) rfl (fun c4_t => ?_) (fun c4_f => ?_)
 ·have c4_tp : n = 0 := of_decide_eq_true c4_t
  refine cR fun _ hK5_ => ?_
  refine sv (v := v) (x_move rfl) ?_
  refine sv (v := v) (x_assign rfl) ?_
  refine wn (hK5_ _ _ ?_)
  refine C_ret (X_thenR ?_)
  refine R_any (v := v) (run_results1 rfl rfl) ?_
  have H6_ := Holds.resl H 1 rfl ((by simp [pint, c4_tp]) : bytesV ns = bytesV (ns ++ pint 4 n)) ((by simp [pint, c4_tp]) : (List.length ns) = (List.length (ns ++ pint 4 n)))
  exact ⟨_, _, rfl, ⟨v, rfl, rfl⟩, (Same.refl w), H6_⟩
 ·have c4_fp : ¬ (n = 0) := of_decide_eq_false c4_f
  refine C_skip (X_then (hK2_ _ _ ?_))
  refine cR fun _ hK7_ => ?_
  refine sv (v := v) (x_move rfl) ?_
  refine sm (vI .i64 4) ?_
  refine sv (v := (vI .u64 4)) (x_convI rfl underlying3 underlying209 (by decide)) ?_
  refine sv (v := (vI .u64 32)) (x_shl rfl rfl (by decide) (by decide)) ?_
  refine S_list (T_call (al := [v, (vI .u64 (32 : Int))]) (pre := [sl 5 1 v (List.length ns) (bytesV ns)]) rfl (lcons rfl (lcons (congrArg (vI .u64) ((by first | rfl | omega | (simp; done) | (simp; omega)) : 32 = (32 : Int))) rfl)) cb145 (wVint R v ns 32 (by first | assumption | omega) (by first | assumption | omega)) H ?_)
  rintro v8_ p12_ w9_ ⟨_, rfl, rfl⟩ S11_ H10_
  have S13_ := Same.trans (Same.refl w) S11_
  refine sv (v := v8_) (x_assign rfl) ?_
  refine wn (hK7_ _ _ ?_)
  refine cR fun _ hK14_ => ?_
  refine sv (v := v8_) (x_move rfl) ?_
  refine sm (vI .i64 n) ?_
  refine sv (v := (vI .u64 (IntKind.u64.wrap n))) (x_convI rfl underlying2 underlying209 rfl) ?_
  refine S_list (T_call (al := [v8_, (vI .u64 (((IntKind.u64.wrap n).toNat : Nat) : Int))]) (pre := [sl 5 1 v8_ (List.length (ns ++ vint 32)) (bytesV (ns ++ vint 32))]) rfl (lcons rfl (lcons (congrArg (vI .u64) ((by first | rfl | omega | (simp; done) | (simp; omega)) : IntKind.u64.wrap n = (((IntKind.u64.wrap n).toNat : Nat) : Int))) rfl)) cb145 (wVint R v8_ (ns ++ vint 32) ((IntKind.u64.wrap n).toNat) (by first | assumption | omega) (by rw [List.length_append]; omega)) H10_ ?_)
  rintro v15_ p19_ w16_ ⟨_, rfl, rfl⟩ S18_ H17_
  have S20_ := Same.trans S13_ S18_
  refine sv (v := v15_) (x_assign rfl) ?_
  refine wn (hK14_ _ _ ?_)
  refine C_ret ?_
  refine R_any (v := v15_) (run_results1 rfl rfl) ?_
  have H21_ := Holds.resl H17_ 1 rfl ((by simp [pint, c4_fp, vi]) : bytesV ((ns ++ vint 32) ++ vint ((IntKind.u64.wrap n).toNat)) = bytesV (ns ++ pint 4 n)) ((by simp [pint, c4_fp, vi]) : (List.length ((ns ++ vint 32) ++ vint ((IntKind.u64.wrap n).toNat))) = (List.length (ns ++ pint 4 n)))
  exact ⟨_, _, rfl, ⟨v15_, rfl, rfl⟩, S20_, H21_⟩

set_option maxHeartbeats 1600000 in
theorem hInt6 (R : HP) (v : Value) (ns : List Int) (n : Int) (q0 : ns.length ≤ 1000000) :
    Tri Tryz.prog 143 #[v, (vI .i64 6), (vI .i64 n)] R [sl 5 1 v (List.length ns) (bytesV ns)] (fun v__ post__ => ∃ (v' : Value), v__ = v' ∧ post__ = [sl 5 1 v' (List.length (ns ++ pint 6 n)) (bytesV (ns ++ pint 6 n))]) := by
 have hun := u64_range n
 have hv8 := vint_len10 (n := 48) (by omega)
 refine Tri.into (n := 19) (al := [v, (vI .i64 6), (vI .i64 n)]) func143 rfl ntmps143 rfl rfl fun w F H => ?_
 refine cR fun _ hK1_ => ?_
 refine sv (v := (vS none 0 0)) (x_assign rfl) ?_
 refine wn (hK1_ _ _ ?_)
 refine C_seq (fun _ hK2_ => ?_)
 refine cR fun _ hK3_ => ?_
 refine sm (vI .i64 n) ?_
 refine sv (v := (vB (decide (n = 0)))) (x_bin rfl rfl rfl) ?_
 refine wn (hK3_ _ _ ?_)
 refine C_cond (b := decide (n = 0)) rfl (fun c4_t => ?_) (fun c4_f => ?_)
 ·have c4_tp : n = 0 := of_decide_eq_true c4_t
  refine cR fun _ hK5_ => ?_
  refine sv (v := v) (x_move rfl) ?_
  refine sv (v := v) (x_assign rfl) ?_
  refine wn (hK5_ _ _ ?_)
  refine C_ret (X_thenR ?_)
  refine R_any (v := v) (run_results1 rfl rfl) ?_
  have H6_ := Holds.resl H 1 rfl ((by simp [pint, c4_tp]) : bytesV ns = bytesV (ns ++ pint 6 n)) ((by simp [pint, c4_tp]) : (List.length ns) = (List.length (ns ++ pint 6 n)))
  exact ⟨_, _, rfl, ⟨v, rfl, rfl⟩, (Same.refl w), H6_⟩
 ·have c4_fp : ¬ (n = 0) := of_decide_eq_false c4_f
  refine C_skip (X_then (hK2_ _ _ ?_))
  refine cR fun _ hK7_ => ?_
  refine sv (v := v) (x_move rfl) ?_
  refine sm (vI .i64 6) ?_
  refine sv (v := (vI .u64 6)) (x_convI rfl underlying3 underlying209 (by decide)) ?_
  refine sv (v := (vI .u64 48)) (x_shl rfl rfl (by decide) (by decide)) ?_
  refine S_list (T_call (al := [v, (vI .u64 (48 : Int))]) (pre := [sl 5 1 v (List.length ns) (bytesV ns)]) rfl (lcons rfl (lcons (congrArg (vI .u64) ((by first | rfl | omega | (simp; done) | (simp; omega)) : 48 = (48 : Int))) rfl)) cb145 (wVint R v ns 48 (by first | assumption | omega) (by first | assumption | omega)) H ?_)
  rintro v8_ p12_ w9_ ⟨_, rfl, rfl⟩ S11_ H10_
  have S13_ := Same.trans (Same.refl w) S11_
  refine sv (v := v8_) (x_assign rfl) ?_
  refine wn (hK7_ _ _ ?_)
  refine cR fun _ hK14_ => ?_
  refine sv (v := v8_) (x_move rfl) ?_
  refine sm (vI .i64 n) ?_
  refine sv (v := (vI .u64 (IntKind.u64.wrap n))) (x_convI rfl underlying2 underlying209 rfl) ?_
  refine S_list (T_call (al := [v8_, (vI .u64 (((IntKind.u64.wrap n).toNat : Nat) : Int))]) (pre := [sl 5 1 v8_ (List.length (ns ++ vint 48)) (bytesV (ns ++ vint 48))]) rfl (lcons rfl (lcons (congrArg (vI .u64) ((by first | rfl | omega | (simp; done) | (simp; omega)) : IntKind.u64.wrap n = (((IntKind.u64.wrap n).toNat : Nat) : Int))) rfl)) cb145 (wVint R v8_ (ns ++ vint 48) ((IntKind.u64.wrap n).toNat) (by first | assumption | omega) (by rw [List.length_append]; omega)) H10_ ?_)
  rintro v15_ p19_ w16_ ⟨_, rfl, rfl⟩ S18_ H17_
  have S20_ := Same.trans S13_ S18_
  refine sv (v := v15_) (x_assign rfl) ?_
  refine wn (hK14_ _ _ ?_)
  refine C_ret ?_
  refine R_any (v := v15_) (run_results1 rfl rfl) ?_
  have H21_ := Holds.resl H17_ 1 rfl ((by simp [pint, c4_fp, vi]) : bytesV ((ns ++ vint 48) ++ vint ((IntKind.u64.wrap n).toNat)) = bytesV (ns ++ pint 6 n)) ((by simp [pint, c4_fp, vi]) : (List.length ((ns ++ vint 48) ++ vint ((IntKind.u64.wrap n).toNat))) = (List.length (ns ++ pint 6 n)))
  exact ⟨_, _, rfl, ⟨v15_, rfl, rfl⟩, S20_, H21_⟩

set_option maxHeartbeats 1600000 in
theorem hByt1 (R : HP) (v p : Value) (ns ds : List Int) (hP : RS R 1 p ds.length (bytesV ds)) (q1 : ns.length ≤ 1000000) (q2 : ds.length ≤ 1000000) :
    Tri Tryz.prog 142 #[v, (vI .i64 1), p] R [sl 5 1 v (List.length ns) (bytesV ns)] (fun v__ post__ => ∃ (v' : Value), v__ = v' ∧ post__ = [sl 5 1 v' (List.length (ns ++ (vint 10 ++ vi ds.length ++ ds))) (bytesV (ns ++ (vint 10 ++ vi ds.length ++ ds)))]) := by
 have hvl := vi_len (ds.length : Int)
 have hu := u64_range (ds.length : Int)
 have hv8 := vint_len10 (n := 10) (by omega)
 refine Tri.into (n := 21) (al := [v, (vI .i64 1), p]) func142 rfl ntmps142 rfl rfl fun w F H => ?_
 refine cR fun _ hK1_ => ?_
 refine sv (v := (vS none 0 0)) (x_assign rfl) ?_
 refine wn (hK1_ _ _ ?_)
 refine cR fun _ hK2_ => ?_
 refine sv (v := v) (x_move rfl) ?_
 refine sm (vI .i64 1) ?_
 refine sv (v := (vI .u64 1)) (x_convI rfl underlying3 underlying209 (by decide)) ?_
 refine sv (v := (vI .u64 8)) (x_shl rfl rfl (by decide) (by decide)) ?_
 refine sv (v := (vI .u64 10)) (x_bin rfl rfl (by rfl)) ?_
 refine S_list (T_call (al := [v, (vI .u64 (10 : Int))]) (pre := [sl 5 1 v (List.length ns) (bytesV ns)]) rfl (lcons rfl (lcons (congrArg (vI .u64) ((by first | rfl | omega | (simp; done) | (simp; omega)) : 10 = (10 : Int))) rfl)) cb145 (wVint R v ns 10 (by first | assumption | omega) (by first | assumption | omega)) H ?_)
 rintro v3_ p7_ w4_ ⟨_, rfl, rfl⟩ S6_ H5_
 have S8_ := Same.trans (Same.refl w) S6_
 refine sv (v := v3_) (x_assign rfl) ?_
 refine wn (hK2_ _ _ ?_)
 refine cR fun _ hK9_ => ?_
 refine sv (v := v3_) (x_move rfl) ?_
 refine sv (v := p) (x_move rfl) ?_
 refine sv (v := (vI .i64 (ds.length : Int))) (x_lenRS rfl hP underlying101) ?_
 refine sv (v := (vI .u64 (IntKind.u64.wrap (ds.length : Int)))) (x_convI rfl underlying3 underlying209 rfl) ?_
 refine S_list (T_call (al := [v3_, (vI .u64 (((IntKind.u64.wrap (ds.length : Int)).toNat : Nat) : Int))]) (pre := [sl 5 1 v3_ (List.length (ns ++ vint 10)) (bytesV (ns ++ vint 10))]) rfl (lcons rfl (lcons (congrArg (vI .u64) ((by first | rfl | omega | (simp; done) | (simp; omega)) : IntKind.u64.wrap (ds.length : Int) = (((IntKind.u64.wrap (ds.length : Int)).toNat : Nat) : Int))) rfl)) cb145 (wVint R v3_ (ns ++ vint 10) ((IntKind.u64.wrap (ds.length : Int)).toNat) (by first | assumption | omega) (by rw [List.length_append]; omega)) H5_ ?_)
 rintro v10_ p14_ w11_ ⟨_, rfl, rfl⟩ S13_ H12_
 have S15_ := Same.trans S8_ S13_
 refine sv (v := v10_) (x_assign rfl) ?_
 refine wn (hK9_ _ _ ?_)
 refine cR fun _ hK16_ => ?_
 refine sv (v := v10_) (x_move rfl) ?_
 refine sv (v := p) (x_move rfl) ?_
 refine S_list (T_append rfl rfl underlying101 z5 rfl (by decide) H12_ 1 rfl (RS.src hP (Holds.ro_at H12_ 0 rfl) underlying101 (one_bytes _)) (by rw [List.length_append, List.length_append]; unfold vi at hvl; omega) ?_)
 intro v17_ w18_ S20_ H19_
 have S21_ := Same.trans S15_ S20_
 have H22_ := Holds.resl H19_ 1 rfl (bytesV_app _ _ : (bytesV ((ns ++ vint 10) ++ vint ((IntKind.u64.wrap (ds.length : Int)).toNat))) ++ (bytesV ds) = bytesV (((ns ++ vint 10) ++ vint ((IntKind.u64.wrap (ds.length : Int)).toNat)) ++ ds)) (by first | (simp; done) | (simp; omega) | (have := RS.blen hP; simp; omega) : (List.length ((ns ++ vint 10) ++ vint ((IntKind.u64.wrap (ds.length : Int)).toNat))) + ds.length = (List.length (((ns ++ vint 10) ++ vint ((IntKind.u64.wrap (ds.length : Int)).toNat)) ++ ds)))
 refine sv (v := v17_) (x_assign rfl) ?_
 refine wn (hK16_ _ _ ?_)
 refine C_ret ?_
 refine R_any (v := v17_) (run_results1 rfl rfl) ?_
 have H23_ := Holds.resl H22_ 1 rfl ((by simp [vi]) : bytesV (((ns ++ vint 10) ++ vint ((IntKind.u64.wrap (ds.length : Int)).toNat)) ++ ds) = bytesV (ns ++ (vint 10 ++ vi ds.length ++ ds))) ((by simp [vi]) : (List.length (((ns ++ vint 10) ++ vint ((IntKind.u64.wrap (ds.length : Int)).toNat)) ++ ds)) = (List.length (ns ++ (vint 10 ++ vi ds.length ++ ds))))
 exact ⟨_, _, rfl, ⟨v17_, rfl, rfl⟩, S21_, H23_⟩

set_option maxHeartbeats 1600000 in
theorem hByt5 (R : HP) (v p : Value) (ns ds : List Int) (hP : RS R 1 p ds.length (bytesV ds)) (q1 : ns.length ≤ 1000000) (q2 : ds.length ≤ 1000000) :
    Tri Tryz.prog 142 #[v, (vI .i64 5), p] R [sl 5 1 v (List.length ns) (bytesV ns)] (fun v__ post__ => ∃ (v' : Value), v__ = v' ∧ post__ = [sl 5 1 v' (List.length (ns ++ (vint 42 ++ vi ds.length ++ ds))) (bytesV (ns ++ (vint 42 ++ vi ds.length ++ ds)))]) := by
 have hvl := vi_len (ds.length : Int)
 have hu := u64_range (ds.length : Int)
 have hv8 := vint_len10 (n := 42) (by omega)
 refine Tri.into (n := 21) (al := [v, (vI .i64 5), p]) func142 rfl ntmps142 rfl rfl fun w F H => ?_
 refine cR fun _ hK1_ => ?_
 refine sv (v := (vS none 0 0)) (x_assign rfl) ?_
 refine wn (hK1_ _ _ ?_)
 refine cR fun _ hK2_ => ?_
 refine sv (v := v) (x_move rfl) ?_
 refine sm (vI .i64 5) ?_
 refine sv (v := (vI .u64 5)) (x_convI rfl underlying3 underlying209 (by decide)) ?_
 refine sv (v := (vI .u64 40)) (x_shl rfl rfl (by decide) (by decide)) ?_
 refine sv (v := (vI .u64 42)) (x_bin rfl rfl (by rfl)) ?_
 refine S_list (T_call (al := [v, (vI .u64 (42 : Int))]) (pre := [sl 5 1 v (List.length ns) (bytesV ns)]) rfl (lcons rfl (lcons (congrArg (vI .u64) ((by first | rfl | omega | (simp; done) | (simp; omega)) : 42 = (42 : Int))) rfl)) cb145 (wVint R v ns 42 (by first | assumption | omega) (by first | assumption | omega)) H ?_)
 rintro v3_ p7_ w4_ ⟨_, rfl, rfl⟩ S6_ H5_
 have S8_ := Same.trans (Same.refl w) S6_
 refine sv (v := v3_) (x_assign rfl) ?_
 refine wn (hK2_ _ _ ?_)
 refine cR fun _ hK9_ => ?_
 refine sv (v := v3_) (x_move rfl) ?_
 refine sv (v := p) (x_move rfl) ?_
 refine sv (v := (vI .i64 (ds.length : Int))) (x_lenRS rfl hP underlying101) ?_
 refine sv (v := (vI .u64 (IntKind.u64.wrap (ds.length : Int)))) (x_convI rfl underlying3 underlying209 rfl) ?_
 refine S_list (T_call (al := [v3_, (vI .u64 (((IntKind.u64.wrap (ds.length : Int)).toNat : Nat) : Int))]) (pre := [sl 5 1 v3_ (List.length (ns ++ vint 42)) (bytesV (ns ++ vint 42))]) rfl (lcons rfl (lcons (congrArg (vI .u64) ((by first | rfl | omega | (simp; done) | (simp; omega)) : IntKind.u64.wrap (ds.length : Int) = (((IntKind.u64.wrap (ds.length : Int)).toNat : Nat) : Int))) rfl)) cb145 (wVint R v3_ (ns ++ vint 42) ((IntKind.u64.wrap (ds.length : Int)).toNat) (by first | assumption | omega) (by rw [List.length_append]; omega)) H5_ ?_)
 rintro v10_ p14_ w11_ ⟨_, rfl, rfl⟩ S13_ H12_
 have S15_ := Same.trans S8_ S13_
 refine sv (v := v10_) (x_assign rfl) ?_
 refine wn (hK9_ _ _ ?_)
 refine cR fun _ hK16_ => ?_
 refine sv (v := v10_) (x_move rfl) ?_
 refine sv (v := p) (x_move rfl) ?_
 refine S_list (T_append rfl rfl underlying101 z5 rfl (by decide) H12_ 1 rfl (RS.src hP (Holds.ro_at H12_ 0 rfl) underlying101 (one_bytes _)) (by rw [List.length_append, List.length_append]; unfold vi at hvl; omega) ?_)
 intro v17_ w18_ S20_ H19_
 have S21_ := Same.trans S15_ S20_
 have H22_ := Holds.resl H19_ 1 rfl (bytesV_app _ _ : (bytesV ((ns ++ vint 42) ++ vint ((IntKind.u64.wrap (ds.length : Int)).toNat))) ++ (bytesV ds) = bytesV (((ns ++ vint 42) ++ vint ((IntKind.u64.wrap (ds.length : Int)).toNat)) ++ ds)) (by first | (simp; done) | (simp; omega) | (have := RS.blen hP; simp; omega) : (List.length ((ns ++ vint 42) ++ vint ((IntKind.u64.wrap (ds.length : Int)).toNat))) + ds.length = (List.length (((ns ++ vint 42) ++ vint ((IntKind.u64.wrap (ds.length : Int)).toNat)) ++ ds)))
 refine sv (v := v17_) (x_assign rfl) ?_
 refine wn (hK16_ _ _ ?_)
 refine C_ret ?_
 refine R_any (v := v17_) (run_results1 rfl rfl) ?_
 have H23_ := Holds.resl H22_ 1 rfl ((by simp [vi]) : bytesV (((ns ++ vint 42) ++ vint ((IntKind.u64.wrap (ds.length : Int)).toNat)) ++ ds) = bytesV (ns ++ (vint 42 ++ vi ds.length ++ ds))) ((by simp [vi]) : (List.length (((ns ++ vint 42) ++ vint ((IntKind.u64.wrap (ds.length : Int)).toNat)) ++ ds)) = (List.length (ns ++ (vint 42 ++ vi ds.length ++ ds))))
 exact ⟨_, _, rfl, ⟨v17_, rfl, rfl⟩, S21_, H23_⟩

set_option maxHeartbeats 1600000 in
theorem hKV (R : HP) (kb : Nat) (kv vv : Value) (ks vs : List Int) (cr md ver le : Int) (hK : RC R kb 0 [kv, (vI .i64 cr), (vI .i64 md), (vI .i64 ver), vv, (vI .i64 le)]) (hk : RS R 1 kv ks.length (bytesV ks)) (hv : RS R 1 vv vs.length (bytesV vs)) (q3 : ks.length ≤ 100000) (q4 : vs.length ≤ 100000) :
    Tri Tryz.prog 140 #[(vP (some ⟨kb, 0, none⟩))] R [] (fun v__ post__ => ∃ (v' : Value), v__ = v' ∧ post__ = [sl 5 1 v' (List.length (kvb ks vs cr md ver le)) (bytesV (kvb ks vs cr md ver le))]) := by
 have hl1 := pbyt_len 1 ks (by omega)
 have hl2 := pint_len 2 cr (by omega)
 have hl3 := pint_len 3 md (by omega)
 have hl4 := pint_len 4 ver (by omega)
 have hl5 := pbyt_len 5 vs (by omega)
 refine Tri.into (n := 52) (al := [(vP (some ⟨kb, 0, none⟩))]) func140 rfl ntmps140 rfl rfl fun w F H => ?_
 refine cR fun _ hK1_ => ?_
 refine sv (v := (vS none 0 0)) (x_assign rfl) ?_
 refine wn (hK1_ _ _ ?_)
 refine cR fun _ hK2_ => ?_
 refine sv (v := (vS none 0 0)) (x_assign rfl) ?_
 refine wn (hK2_ _ _ ?_)
 have H3_ : Holds w (sl 5 1 (vS none 0 0) (List.length ([] : List Int)) (bytesV ([] : List Int)) :: ro R :: F) := Holds.add_nil H 5 1
 refine C_cut (fun a__ w1__ => ∃ z1 : Value, ∃ h : Env, a__ = mkA 52 (upd (upd (upd h 0 (vP (some ⟨kb, 0, none⟩))) 2 (vS none 0 0)) 3 z1) [] ∧ Holds w1__ (sl 5 1 z1 (List.length (pbyt 1 ks)) (bytesV (pbyt 1 ks)) :: ro R :: F) ∧ Same w w1__) ?_ ?_
 ·refine cR fun _ hK7_ => ?_
  refine sm (vP (some ⟨kb, 0, none⟩)) ?_
  refine sv (v := (vP (some ⟨kb, 0, none⟩))) (by kernel_rfl) ?_
  refine sv (v := (vP (some ⟨kb, 0, none⟩))) (by kernel_rfl) ?_
  refine sv (v := kv) (x_load1 rfl underlying101 rfl (RC.cell hK (Holds.ro_at H3_ 1 rfl) (j := 0) (u := kv) (rfl))) ?_
  refine sv (v := (vI .i64 (ks.length : Int))) (x_lenRS rfl hk underlying101) ?_
  refine sv (v := (vB (decide (0 < (ks.length : Int))))) (x_bin rfl rfl rfl) ?_
  refine wn (hK7_ _ _ ?_)
  refine C_cond (b := decide (0 < (ks.length : Int))) rfl (fun c8_t => ?_) (fun c8_f => ?_)
  ·have c8_tp : 0 < (ks.length : Int) := of_decide_eq_true c8_t
   refine C_reg ?_
   refine sm (vS none 0 0) ?_
   refine sm (vP (some ⟨kb, 0, none⟩)) ?_
   refine sv (v := (vP (some ⟨kb, 0, none⟩))) (by kernel_rfl) ?_
   refine sv (v := (vP (some ⟨kb, 0, none⟩))) (by kernel_rfl) ?_
   refine sv (v := kv) (x_load1 rfl underlying101 rfl (RC.cell hK (Holds.ro_at H3_ 1 rfl) (j := 0) (u := kv) (rfl))) ?_
   have H10_ := ((Holds.bring H3_ 1 rfl) :)
   refine S_list (T_call (al := [((vS none 0 0)), (vI .i64 1), kv]) (pre := [sl 5 1 (vS none 0 0) (List.length ([] : List Int)) (bytesV ([] : List Int))]) rfl (lcons (rfl : (vS none 0 0) = ((vS none 0 0))) rfl) cb142 (hByt1 R (vS none 0 0) kv ([] : List Int) ks hk (by first | assumption | omega | (simp only [List.length_append, List.length_nil]; omega)) (by first | assumption | omega | (simp only [List.length_append, List.length_nil]; omega))) H10_ ?_)
   rintro v9_ p14_ w11_ ⟨_, rfl, rfl⟩ S13_ H12_
   have S15_ := Same.trans (Same.refl w) S13_
   refine sv (v := v9_) (x_assign rfl) ?_
   refine wpList_nil (X_then ?_)
   have H16_ := Holds.resl H12_ 1 rfl ((by rw [pbyt_pos (f := 1) (u := ks) c8_tp]; simp) : bytesV (([] : List Int) ++ (vint 10 ++ vi ks.length ++ ks)) = bytesV (pbyt 1 ks)) ((by rw [pbyt_pos (f := 1) (u := ks) c8_tp]; simp) : (List.length (([] : List Int) ++ (vint 10 ++ vi ks.length ++ ks))) = (List.length (pbyt 1 ks)))
   have H17_ := Holds.pkF H16_ [1, 0] 0
   exact ⟨v9_, _, congrArg (fun e => mkA 52 e []) (ch (ch (ch rfl rfl) rfl) rfl), H17_, S15_⟩
  ·have c8_fp : ¬ (0 < (ks.length : Int)) := of_decide_eq_false c8_f
   refine C_skip (X_then ?_)
   have H18_ := Holds.resl H3_ 0 rfl ((by simp [pbyt, List.eq_nil_of_length_eq_zero (by omega : ks.length = 0)]) : bytesV ([] : List Int) = bytesV (pbyt 1 ks)) ((by simp [pbyt, List.eq_nil_of_length_eq_zero (by omega : ks.length = 0)]) : (List.length ([] : List Int)) = (List.length (pbyt 1 ks)))
   exact ⟨(vS none 0 0), _, congrArg (fun e => mkA 52 e []) (ch (ch (ch rfl rfl) rfl) (rfl : (vS none 0 0) = ((vS none 0 0)))), H18_, (Same.refl w)⟩
 ·rintro _ w4_ ⟨z1, h, rfl, H5_, S6_⟩
  refine cR fun _ hK19_ => ?_
  refine sv (v := z1) (x_move rfl) ?_
  refine sm (vP (some ⟨kb, 0, none⟩)) ?_
  refine sv (v := (vP (some ⟨kb, 0, none⟩))) (by kernel_rfl) ?_
  refine sv (v := (vP (some ⟨kb, 1, none⟩))) (by kernel_rfl) ?_
  refine sv (v := (vI .i64 cr)) (x_load1 rfl underlying2 rfl (RC.cell hK (Holds.ro_at H5_ 1 rfl) (j := 1) (u := (vI .i64 cr)) (rfl))) ?_
  have H21_ := ((Holds.bring H5_ 1 rfl) :)
  refine S_list (T_call (al := [z1, (vI .i64 2), (vI .i64 cr)]) (pre := [sl 5 1 z1 (List.length (pbyt 1 ks)) (bytesV (pbyt 1 ks))]) rfl rfl cb143 (hInt2 R z1 (pbyt 1 ks) cr (by first | assumption | omega | (simp only [List.length_append, List.length_nil]; omega))) H21_ ?_)
  rintro v20_ p25_ w22_ ⟨_, rfl, rfl⟩ S24_ H23_
  have S26_ := Same.trans S6_ S24_
  refine sv (v := v20_) (x_assign rfl) ?_
  refine wn (hK19_ _ _ ?_)
  refine cR fun _ hK27_ => ?_
  refine sv (v := v20_) (x_move rfl) ?_
  refine sm (vP (some ⟨kb, 0, none⟩)) ?_
  refine sv (v := (vP (some ⟨kb, 0, none⟩))) (by kernel_rfl) ?_
  refine sv (v := (vP (some ⟨kb, 2, none⟩))) (by kernel_rfl) ?_
  refine sv (v := (vI .i64 md)) (x_load1 rfl underlying2 rfl (RC.cell hK (Holds.ro_at H23_ 0 rfl) (j := 2) (u := (vI .i64 md)) (rfl))) ?_
  refine S_list (T_call (al := [v20_, (vI .i64 3), (vI .i64 md)]) (pre := [sl 5 1 v20_ (List.length ((pbyt 1 ks) ++ pint 2 cr)) (bytesV ((pbyt 1 ks) ++ pint 2 cr))]) rfl rfl cb143 (hInt3 R v20_ ((pbyt 1 ks) ++ pint 2 cr) md (by first | assumption | omega | (simp only [List.length_append, List.length_nil]; omega))) H23_ ?_)
  rintro v28_ p32_ w29_ ⟨_, rfl, rfl⟩ S31_ H30_
  have S33_ := Same.trans S26_ S31_
  refine sv (v := v28_) (x_assign rfl) ?_
  refine wn (hK27_ _ _ ?_)
  refine cR fun _ hK34_ => ?_
  refine sv (v := v28_) (x_move rfl) ?_
  refine sm (vP (some ⟨kb, 0, none⟩)) ?_
  refine sv (v := (vP (some ⟨kb, 0, none⟩))) (by kernel_rfl) ?_
  refine sv (v := (vP (some ⟨kb, 3, none⟩))) (by kernel_rfl) ?_
  refine sv (v := (vI .i64 ver)) (x_load1 rfl underlying2 rfl (RC.cell hK (Holds.ro_at H30_ 0 rfl) (j := 3) (u := (vI .i64 ver)) (rfl))) ?_
  refine S_list (T_call (al := [v28_, (vI .i64 4), (vI .i64 ver)]) (pre := [sl 5 1 v28_ (List.length (((pbyt 1 ks) ++ pint 2 cr) ++ pint 3 md)) (bytesV (((pbyt 1 ks) ++ pint 2 cr) ++ pint 3 md))]) rfl rfl cb143 (hInt4 R v28_ (((pbyt 1 ks) ++ pint 2 cr) ++ pint 3 md) ver (by first | assumption | omega | (simp only [List.length_append, List.length_nil]; omega))) H30_ ?_)
  rintro v35_ p39_ w36_ ⟨_, rfl, rfl⟩ S38_ H37_
  have S40_ := Same.trans S33_ S38_
  refine sv (v := v35_) (x_assign rfl) ?_
  refine wn (hK34_ _ _ ?_)
  refine C_cut (fun a__ w1__ => ∃ z2 : Value, ∃ h : Env, a__ = mkA 52 (upd (upd (upd h 0 (vP (some ⟨kb, 0, none⟩))) 2 (vS none 0 0)) 3 z2) [] ∧ Holds w1__ (ro R :: sl 5 1 z2 (List.length (pbyt 1 ks ++ pint 2 cr ++ pint 3 md ++ pint 4 ver ++ pbyt 5 vs)) (bytesV (pbyt 1 ks ++ pint 2 cr ++ pint 3 md ++ pint 4 ver ++ pbyt 5 vs)) :: F) ∧ Same w w1__) ?_ ?_
  ·refine cR fun _ hK44_ => ?_
   refine sm (vP (some ⟨kb, 0, none⟩)) ?_
   refine sv (v := (vP (some ⟨kb, 0, none⟩))) (by kernel_rfl) ?_
   refine sv (v := (vP (some ⟨kb, 4, none⟩))) (by kernel_rfl) ?_
   refine sv (v := vv) (x_load1 rfl underlying101 rfl (RC.cell hK (Holds.ro_at H37_ 0 rfl) (j := 4) (u := vv) (rfl))) ?_
   refine sv (v := (vI .i64 (vs.length : Int))) (x_lenRS rfl hv underlying101) ?_
   refine sv (v := (vB (decide (0 < (vs.length : Int))))) (x_bin rfl rfl rfl) ?_
   refine wn (hK44_ _ _ ?_)
   refine C_cond (b := decide (0 < (vs.length : Int))) rfl (fun c45_t => ?_) (fun c45_f => ?_)
   ·have c45_tp : 0 < (vs.length : Int) := of_decide_eq_true c45_t
    refine C_reg ?_
    refine sv (v := v35_) (x_move rfl) ?_
    refine sm (vP (some ⟨kb, 0, none⟩)) ?_
    refine sv (v := (vP (some ⟨kb, 0, none⟩))) (by kernel_rfl) ?_
    refine sv (v := (vP (some ⟨kb, 4, none⟩))) (by kernel_rfl) ?_
    refine sv (v := vv) (x_load1 rfl underlying101 rfl (RC.cell hK (Holds.ro_at H37_ 0 rfl) (j := 4) (u := vv) (rfl))) ?_
    refine S_list (T_call (al := [v35_, (vI .i64 5), vv]) (pre := [sl 5 1 v35_ (List.length ((((pbyt 1 ks) ++ pint 2 cr) ++ pint 3 md) ++ pint 4 ver)) (bytesV ((((pbyt 1 ks) ++ pint 2 cr) ++ pint 3 md) ++ pint 4 ver))]) rfl rfl cb142 (hByt5 R v35_ vv ((((pbyt 1 ks) ++ pint 2 cr) ++ pint 3 md) ++ pint 4 ver) vs hv (by first | assumption | omega | (simp only [List.length_append, List.length_nil]; omega)) (by first | assumption | omega | (simp only [List.length_append, List.length_nil]; omega))) H37_ ?_)
    rintro v46_ p50_ w47_ ⟨_, rfl, rfl⟩ S49_ H48_
    have S51_ := Same.trans S40_ S49_
    refine sv (v := v46_) (x_assign rfl) ?_
    refine wpList_nil (X_then ?_)
    have H52_ := Holds.resl H48_ 1 rfl ((by rw [pbyt_pos (f := 5) (u := vs) c45_tp]) : bytesV (((((pbyt 1 ks) ++ pint 2 cr) ++ pint 3 md) ++ pint 4 ver) ++ (vint 42 ++ vi vs.length ++ vs)) = bytesV (pbyt 1 ks ++ pint 2 cr ++ pint 3 md ++ pint 4 ver ++ pbyt 5 vs)) ((by rw [pbyt_pos (f := 5) (u := vs) c45_tp]) : (List.length (((((pbyt 1 ks) ++ pint 2 cr) ++ pint 3 md) ++ pint 4 ver) ++ (vint 42 ++ vi vs.length ++ vs))) = (List.length (pbyt 1 ks ++ pint 2 cr ++ pint 3 md ++ pint 4 ver ++ pbyt 5 vs)))
    exact ⟨v46_, _, congrArg (fun e => mkA 52 e []) (ch (ch (ch rfl rfl) rfl) rfl), H52_, S51_⟩
   ·have c45_fp : ¬ (0 < (vs.length : Int)) := of_decide_eq_false c45_f
    refine C_skip (X_then ?_)
    have H53_ := Holds.resl H37_ 1 rfl ((by simp [pbyt, List.eq_nil_of_length_eq_zero (by omega : vs.length = 0)]) : bytesV ((((pbyt 1 ks) ++ pint 2 cr) ++ pint 3 md) ++ pint 4 ver) = bytesV (pbyt 1 ks ++ pint 2 cr ++ pint 3 md ++ pint 4 ver ++ pbyt 5 vs)) ((by simp [pbyt, List.eq_nil_of_length_eq_zero (by omega : vs.length = 0)]) : (List.length ((((pbyt 1 ks) ++ pint 2 cr) ++ pint 3 md) ++ pint 4 ver)) = (List.length (pbyt 1 ks ++ pint 2 cr ++ pint 3 md ++ pint 4 ver ++ pbyt 5 vs)))
    exact ⟨v35_, _, congrArg (fun e => mkA 52 e []) (ch (ch (ch rfl rfl) rfl) rfl), H53_, S40_⟩
  ·rintro _ w41_ ⟨z2, h, rfl, H42_, S43_⟩
   refine cR fun _ hK54_ => ?_
   refine sv (v := z2) (x_move rfl) ?_
   refine sm (vP (some ⟨kb, 0, none⟩)) ?_
   refine sv (v := (vP (some ⟨kb, 0, none⟩))) (by kernel_rfl) ?_
   refine sv (v := (vP (some ⟨kb, 5, none⟩))) (by kernel_rfl) ?_
   refine sv (v := (vI .i64 le)) (x_load1 rfl underlying2 rfl (RC.cell hK (Holds.ro_at H42_ 0 rfl) (j := 5) (u := (vI .i64 le)) (rfl))) ?_
   refine S_list (T_call (al := [z2, (vI .i64 6), (vI .i64 le)]) (pre := [sl 5 1 z2 (List.length (pbyt 1 ks ++ pint 2 cr ++ pint 3 md ++ pint 4 ver ++ pbyt 5 vs)) (bytesV (pbyt 1 ks ++ pint 2 cr ++ pint 3 md ++ pint 4 ver ++ pbyt 5 vs))]) rfl rfl cb143 (hInt6 R z2 (pbyt 1 ks ++ pint 2 cr ++ pint 3 md ++ pint 4 ver ++ pbyt 5 vs) le (by first | assumption | omega | (simp only [List.length_append, List.length_nil]; omega))) H42_ ?_)
   rintro v55_ p59_ w56_ ⟨_, rfl, rfl⟩ S58_ H57_
   have S60_ := Same.trans S43_ S58_
   refine sv (v := v55_) (x_assign rfl) ?_
   refine wn (hK54_ _ _ ?_)
   refine C_ret ?_
   refine R_any (v := v55_) (run_results1 rfl rfl) ?_
   have H61_ := Holds.resl H57_ 1 rfl ((by simp [kvb]) : bytesV ((pbyt 1 ks ++ pint 2 cr ++ pint 3 md ++ pint 4 ver ++ pbyt 5 vs) ++ pint 6 le) = bytesV (kvb ks vs cr md ver le)) ((by simp [kvb]) : (List.length ((pbyt 1 ks ++ pint 2 cr ++ pint 3 md ++ pint 4 ver ++ pbyt 5 vs) ++ pint 6 le)) = (List.length (kvb ks vs cr md ver le)))
   exact ⟨_, _, rfl, ⟨v55_, rfl, rfl⟩, S60_, H61_⟩
end Go.Proofs.YtlnihndjepjagaaGreat
set_option linter.unusedVariables false
set_option linter.unusedSimpArgs false
namespace Go.Proofs.YtlnihndjepjagaaGreat
open Go Go.RowKit Gw
structure RW where
  rev_Main : Int
  rev_Sub : Int
  gone : Bool
  kV_Key : ByteArray
  kV_Value : ByteArray
  kV_Create : Int
  kV_Mod : Int
  kV_Version : Int
  kV_Lease : Int
def RW.cells (x : RW) : List Value := [(Value.int .i64 x.rev_Main), (Value.int .i64 x.rev_Sub), (Value.bool x.gone), (Value.string x.kV_Key), (Value.string x.kV_Value), (Value.int .i64 x.kV_Create), (Value.int .i64 x.kV_Mod), (Value.int .i64 x.kV_Version), (Value.int .i64 x.kV_Lease)]
theorem RW.len (x : RW) : x.cells.length = 9 := rfl
structure ZR where
  key_Revision_Main : Int
  key_Revision_Sub : Int
  key_tombstone : Bool
  kV : Value
def ZR.cells (x : ZR) : List Value := [(Value.int .i64 x.key_Revision_Main), (Value.int .i64 x.key_Revision_Sub), (Value.bool x.key_tombstone), x.kV]
theorem ZR.len (x : ZR) : x.cells.length = 4 := rfl
structure RV where
  main : Int
  sub : Int
def RV.cells (x : RV) : List Value := [(Value.int .i64 x.main), (Value.int .i64 x.sub)]
theorem RV.len (x : RV) : x.cells.length = 2 := rfl
structure MR where
  main : Int
  sub : Int
def MR.cells (x : MR) : List Value := [(Value.int .i64 x.main), (Value.int .i64 x.sub)]
theorem MR.len (x : MR) : x.cells.length = 2 := rfl
def RW.ks (x : RW) : List Int := ints x.kV_Key
def RW.vs (x : RW) : List Int := ints x.kV_Value
def RW.kb (x : RW) : List Int := rkey x.rev_Main x.rev_Sub x.gone
def RW.vb (x : RW) : List Int := kvb x.ks x.vs x.kV_Create x.kV_Mod x.kV_Version x.kV_Lease
structure KVat (R : HP) (b : Nat) (kv vv : Value) (x : RW) : Prop where
  cells : RC R b 0 [kv, .int .i64 x.kV_Create, .int .i64 x.kV_Mod, .int .i64 x.kV_Version, vv, .int .i64 x.kV_Lease]
  key : RS R 1 kv x.ks.length (bytesV x.ks)
  val : RS R 1 vv x.vs.length (bytesV x.vs)
theorem KVat.mono {R R' : HP} {b : Nat} {kv vv : Value} {x : RW} (h : KVat R b kv vv x) (hs : Sub R R') : KVat R' b kv vv x := ⟨h.cells.mono hs, h.key.mono hs, h.val.mono hs⟩
def ZRof (x : RW) (b : Nat) : ZR := ⟨x.rev_Main, x.rev_Sub, x.gone, .pointer (some ⟨b, 0, none⟩)⟩
def ZipR (R : HP) (zs : List ZR) (l : List RW) : Prop := zs.length = l.length ∧ ∀ (i : Nat) (x : RW), l[i]? = some x → ∃ b kv vv, zs[i]? = some (ZRof x b) ∧ KVat R b kv vv x
theorem ZipR.mono {R R' : HP} {zs : List ZR} {l : List RW} (h : ZipR R zs l) (hs : Sub R R') : ZipR R' zs l :=
  ⟨h.1, fun i x hx => by obtain ⟨b, kv, vv, h1, h2⟩ := h.2 i x hx; exact ⟨b, kv, vv, h1, h2.mono hs⟩⟩
theorem take_snoc {α : Type} {l : List α} {k : Nat} {x : α} (h : l[k]? = some x) : l.take (k + 1) = l.take k ++ [x] := by rw [List.take_add_one, h]; rfl
theorem ZipR.next {R R' : HP} {zs : List ZR} {l : List RW} {k b : Nat} {kv vv : Value} {x : RW} (h : ZipR R zs (l.take k)) (hs : Sub R R') (hx : l[k]? = some x) (hk : KVat R' b kv vv x) : ZipR R' (zs ++ [ZRof x b]) (l.take (k + 1)) := by
  rw [take_snoc hx]
  refine ⟨by simp [h.1], fun i y hy => ?_⟩
  rcases Nat.lt_trichotomy i (l.take k).length with hlt | heq | hgt
  · rw [List.getElem?_append_left hlt] at hy
    obtain ⟨c, k2, v2, h1, h2⟩ := h.2 i y hy
    exact ⟨c, k2, v2, by rw [List.getElem?_append_left (by rw [h.1]; exact hlt), h1], h2.mono hs⟩
  · subst heq
    rw [List.getElem?_append_right (Nat.le_refl _), Nat.sub_self] at hy
    simp at hy; subst hy
    exact ⟨b, kv, vv, by rw [← h.1, List.getElem?_append_right (Nat.le_refl _), Nat.sub_self]; rfl, hk⟩
  · rw [List.getElem?_append_right (by omega)] at hy
    have : i - (l.take k).length ≠ 0 := by omega
    obtain ⟨j, hj⟩ : ∃ j, i - (l.take k).length = j + 1 := ⟨i - (l.take k).length - 1, by omega⟩
    rw [hj] at hy; simp at hy
def Bts (R : HP) (ks : List Value) (bs : List (List Int)) : Prop := ks.length = bs.length ∧ ∀ (i : Nat) (u : List Int), bs[i]? = some u → ∃ kv, ks[i]? = some kv ∧ RS R 1 kv u.length (bytesV u)
theorem Bts.nil (R : HP) : Bts R [] [] := ⟨rfl, fun i u h => by simp at h⟩
theorem Bts.mono {R R' : HP} {ks : List Value} {bs : List (List Int)} (h : Bts R ks bs) (hs : Sub R R') : Bts R' ks bs :=
  ⟨h.1, fun i x hx => by obtain ⟨kv, h1, h2⟩ := h.2 i x hx; exact ⟨kv, h1, h2.mono hs⟩⟩
theorem Bts.next {R R' : HP} {ks : List Value} {l : List RW} {f : RW → List Int} {k : Nat} {kv : Value} {x : RW} (h : Bts R ks ((l.take k).map f)) (hs : Sub R R') (hx : l[k]? = some x) (hk : RS R' 1 kv (f x).length (bytesV (f x))) : Bts R' (ks ++ [kv]) ((l.take (k + 1)).map f) := by
  rw [take_snoc hx, List.map_append]
  refine ⟨by simp [h.1], fun i y hy => ?_⟩
  rcases Nat.lt_trichotomy i ((l.take k).map f).length with hlt | heq | hgt
  · rw [List.getElem?_append_left hlt] at hy
    obtain ⟨c, h1, h2⟩ := h.2 i y hy
    exact ⟨c, by rw [List.getElem?_append_left (by rw [h.1]; exact hlt), h1], h2.mono hs⟩
  · subst heq
    rw [List.getElem?_append_right (Nat.le_refl _), Nat.sub_self] at hy
    simp at hy; subst hy
    exact ⟨kv, by rw [← h.1, List.getElem?_append_right (Nat.le_refl _), Nat.sub_self]; rfl, hk⟩
  · rw [List.getElem?_append_right (by omega)] at hy
    obtain ⟨j, hj⟩ : ∃ j, i - ((l.take k).map f).length = j + 1 := ⟨i - ((l.take k).map f).length - 1, by omega⟩
    rw [hj] at hy; simp at hy
end Go.Proofs.YtlnihndjepjagaaGreat
