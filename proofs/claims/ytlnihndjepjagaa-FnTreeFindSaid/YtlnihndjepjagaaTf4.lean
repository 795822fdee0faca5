/- Words, and proved steps, on which the proof leans. -/
import Derived.Lib.Bytealg
import Derived.Test.YtlnihndjepjagaaTf3
set_option linter.unusedVariables false
set_option linter.unusedSimpArgs false
namespace Go.Proofs.Ytlnihndjepjagaa
open Go Go.RowKit Gw
open Go.Value renaming int → vI, bool → vB, slice → vS, pointer → vP, agg → vA, tuple → vT

section
variable {K : Type} (O : KO K)
/-- Interval [b, e) goes ahead of n's. -/
def bef (b e : K) (n : ND K) : Prop := O.cm b n.kb < 0 ∨ (O.cm b n.kb = 0 ∧ O.cm e n.ke < 0)
/-- The way down to a place: to the left of what the new one goes ahead of. -/
def way (b e : K) : List (Fr K) → Prop | [] => True | f :: C => (if f.d then bef O b e f.n else ¬ bef O b e f.n) ∧ way b e C
def srt (L : List (ND K)) : Prop := L.Pairwise fun x y => ¬ bef O y.kb y.ke x
variable {O}
/-- What goes ahead of one goes ahead of all that come behind it. -/
theorem bef_mono {b e : K} {x y : ND K} (h : bef O b e x) (hxy : ¬ bef O y.kb y.ke x) : bef O b e y := by
  have t1 : ∀ {a b c : K}, O.cm a b < 0 → ¬ O.cm c b < 0 → O.cm a c < 0 := by
    intro a b c h1 h2
    have h3 : ¬ 0 < O.cm b c := fun h => h2 (O.flip.2 h)
    have h4 : O.cm a c ≤ 0 := O.trans (b := b) (by omega) (by omega)
    have h5 : O.cm a c ≠ 0 := by
      intro h0
      have := O.anti h0
      subst this
      exact h2 h1
    omega
  unfold bef at *
  rcases h with h | ⟨h1, h2⟩
  · exact .inl (t1 h (fun hh => hxy (.inl hh)))
  · have e1 := O.anti h1
    subst e1
    by_cases hc : O.cm y.kb x.kb = 0
    · have e2 := O.anti hc
      refine .inr ⟨by rw [e2]; exact O.refl _, t1 h2 (fun hh => hxy (.inr ⟨hc, hh⟩))⟩
    · refine .inl ?_
      have h3 : ¬ O.cm y.kb x.kb < 0 := fun hh => hxy (.inl hh)
      exact O.flip.2 (by omega)
/-- A new one, put where the way leads, stands behind all that it does not go ahead of. -/
theorem way_in {b e : K} : ∀ {C : List (Fr K)} {M : List (ND K)}, way O b e C → srt O (inl C ++ M ++ inr C) → (∀ n ∈ inl C, ¬ bef O b e n) ∧ (∀ n ∈ inr C, bef O b e n)
  | [], M, _, _ => ⟨(fun n hn => by simp [inl] at hn), (fun n hn => by simp [inr] at hn)⟩
  | f :: C, M, hw, hs => by
    obtain ⟨d, m, o⟩ := f
    obtain ⟨h1, h2⟩ := hw
    cases d
    · have hs' : srt O (inl C ++ (ino o ++ [m.er] ++ M) ++ inr C) := by
        have : inl (⟨false, m, o⟩ :: C) ++ M ++ inr (⟨false, m, o⟩ :: C) = inl C ++ (ino o ++ [m.er] ++ M) ++ inr C := by simp [inl, inr]
        rw [← this]; exact hs
      obtain ⟨h3, h4⟩ := way_in h2 hs'
      refine ⟨fun n hn => ?_, fun n hn => h4 n (by simpa [inr] using hn)⟩
      have hn' : n ∈ inl C ∨ n ∈ ino o ∨ n = m.er := by simpa [inl] using hn
      have h1' : ¬ bef O b e m := by simpa using h1
      rcases hn' with hn | hn | rfl
      · exact h3 n hn
      · intro hb
        have hp : ¬ bef O m.er.kb m.er.ke n := by
          have := hs'
          unfold srt at this
          rw [List.pairwise_append] at this
          have := this.1
          rw [List.pairwise_append] at this
          have := this.2.1
          rw [List.append_assoc, List.pairwise_append] at this
          exact this.2.2 n hn m.er (by simp)
        exact h1' (bef_mono (y := m.er) hb hp)
      · exact h1'
    · have hs' : srt O (inl C ++ (M ++ m.er :: ino o) ++ inr C) := by
        have : inl (⟨true, m, o⟩ :: C) ++ M ++ inr (⟨true, m, o⟩ :: C) = inl C ++ (M ++ m.er :: ino o) ++ inr C := by simp [inl, inr]
        rw [← this]; exact hs
      obtain ⟨h3, h4⟩ := way_in h2 hs'
      refine ⟨fun n hn => h3 n (by simpa [inl] using hn), fun n hn => ?_⟩
      have hn' : n = m.er ∨ n ∈ ino o ∨ n ∈ inr C := by simpa [inr] using hn
      have h1' : bef O b e m := by simpa using h1
      rcases hn' with rfl | hn | hn
      · exact h1'
      · have hp : ¬ bef O n.kb n.ke m.er := by
          have := hs'
          unfold srt at this
          rw [List.pairwise_append] at this
          have := this.1
          rw [List.pairwise_append] at this
          have := this.2.1
          rw [List.pairwise_append] at this
          have := this.2.1
          rw [List.pairwise_cons] at this
          exact this.1 n hn
        exact bef_mono (x := m.er) h1' hp
      · exact h4 n hn
end
section
variable {K : Type} {O : KO K} {R : HP}
theorem ins_fx {C : List (Fr K)} {a : Nat} {b e v : Value} {kb ke : K} (hW : TOk O R (plug C (.lf : Tr K)) ∧ LocT O (plug C (.lf : Tr K)) ∧ blackT (plug C (.lf : Tr K))) (hC : COk O R C) (hb : O.Val R b kb) (he : O.Val R e ke) (hv : v.oneCell' = true := by rfl) :
    FxI O R (inl C ++ (⟨a, b, e, v, e, 1, kb, ke, ke⟩ : ND K).er :: inr C) (upC O (some (e, ke)) C) (.nd ⟨a, b, e, v, e, 1, kb, ke, ke⟩ .lf .lf) where
  tk := ⟨⟨hb, he, he, hv⟩, trivial, trivial⟩
  ck := COk.up hC (fun q hq => by cases hq; exact he)
  lt := ⟨O.refl _, trivial, trivial⟩
  lc := LocC.up (LocC.s (loc_unplug hW.2.1).2)
  top := (top_upC O C _).2.2 (top_plug hW.2.2)
  ino := by
    rw [(in_upC O C _).1, (in_upC O C _).2]
    simp [ino]
theorem bef_swap {y z : ND K} (h1 : bef O z.kb z.ke y) (h2 : bef O y.kb y.ke z.er) : bef O z.kb z.ke z.er := by
  exfalso
  unfold bef at h1 h2
  have f1 := @O.flip z.kb y.kb
  have f2 := @O.flip z.ke y.ke
  have f3 := @O.flip y.kb z.kb
  have f4 := @O.flip y.ke z.ke
  have e1 : O.cm z.kb y.kb = 0 ↔ O.cm y.kb z.kb = 0 := ⟨fun h => by have := O.anti h; rw [this]; exact O.refl _, fun h => by have := O.anti h; rw [this]; exact O.refl _⟩
  have h2' : O.cm y.kb z.kb < 0 ∨ O.cm y.kb z.kb = 0 ∧ O.cm y.ke z.ke < 0 := h2
  omega
theorem ins_srt {C : List (Fr K)} {z : ND K} (hw : way O z.kb z.ke C) (hs : srt O (inl C ++ inr C)) : srt O (inl C ++ z.er :: inr C) := by
  have h := way_in (M := []) hw (by simpa using hs)
  unfold srt at *
  rw [List.pairwise_append] at hs ⊢
  refine ⟨hs.1, ?_, fun x hx y hy => ?_⟩
  · rw [List.pairwise_cons]
    refine ⟨fun y hy hb => ?_, hs.2.1⟩
    have h2 := h.2 y hy
    have h3 : ¬ bef O z.kb z.ke z.er := by
      unfold bef
      intro hh
      rcases hh with hh | ⟨_, hh⟩
      · have := O.refl z.kb; exact absurd hh (by show ¬ O.cm z.kb z.kb < 0; omega)
      · have := O.refl z.ke; exact absurd hh (by show ¬ O.cm z.ke z.ke < 0; omega)
    exact h3 (bef_swap h2 hb)
  · rcases List.mem_cons.1 hy with rfl | hy
    · exact h.1 x hx
    · exact hs.2.2 x hx y hy
end

end Go.Proofs.Ytlnihndjepjagaa
set_option linter.unusedVariables false
set_option linter.unusedSimpArgs false
namespace Go.Proofs.Ytlnihndjepjagaa
open Go Go.RowKit Gw
open Go.Value renaming int → vI, bool → vB, slice → vS, pointer → vP, agg → vA, tuple → vT

set_option maxHeartbeats 16000000 in
theorem itInsertW (R : HP) (K : Type) (O : KO K) (tb sb : Nat) (cnt : Int) (sc : List Value) (W : Tr K) (it jt vt : TypeId) (ix jx vx : Value) (kb ke : K) (hW : TOk O R W ∧ LocT O W ∧ blackT W) (hb : O.Val R (Value.iface it ix) kb) (he : O.Val R (Value.iface jt jx) ke) (hs : srt O (ino W)) :
    Tri Try.prog 147 #[(vQ tb), (vA #[((Value.iface it ix)), ((Value.iface jt jx))]), ((Value.iface vt vx))] R [cl tb 188 [(vQ (rt sb W)), (vI .i64 cnt), (vQ sb)], tr sb sb W, clf sb 185 sc] (fun v__ post__ => ∃ (W' : Tr K) (L1 L2 : List (ND K)) (z : ND K), v__ = (vT #[]) ∧ post__ = [cl tb 188 [(vQ (rt sb W')), (vI .i64 (IntKind.i64.wrap (cnt + 1))), (vQ sb)], tr sb sb W', clf sb 185 sc] ∧ (TOk O R W' ∧ LocT O W' ∧ blackT W') ∧ (ino W' = L1 ++ z.er :: L2) ∧ (ino W = L1 ++ L2) ∧ (z.b = (Value.iface it ix) ∧ z.e = (Value.iface jt jx) ∧ z.v = (Value.iface vt vx) ∧ z.kb = kb ∧ z.ke = ke) ∧ (srt O (ino W')) ∧ (∀ x ∈ L1, ¬ bef O kb ke x) ∧ (∀ y ∈ L2, bef O kb ke y)) := by
 have hW1 := hW
 refine Tri.into (n := 165) (al := [(vQ tb), (vA #[((Value.iface it ix)), ((Value.iface jt jx))]), ((Value.iface vt vx))]) Try.func147 rfl Try.ntmps147 rfl rfl fun w F H => ?_
 refine C_seq (fun K1_ hK1_ => C_reg ?_)
 refine S_list (T_box (v := (vA #[((Value.iface it ix)), ((Value.iface jt jx))])) rfl H ?_)
 intro b2_ w3_ S5_ H4_
 have S6_ := Same.trans (Same.refl w) S5_
 refine wpList_nil (X_then (hK1_ _ _ ?_))
 clear hK1_
 refine C_seq (fun K7_ hK7_ => C_reg ?_)
 refine sv (v := (vQ tb)) (x_move rfl) ?_
 refine sv (v := (vQ tb)) (by kernel_rfl) ?_
 refine sv (v := (vP (some ⟨tb, 2, none⟩))) (by kernel_rfl) ?_
 refine sv (v := (vQ sb)) (x_load1 rfl Try.underlying182 rfl ((Holds.rd H4_ 2 rfl) 2 (vQ sb) rfl)) ?_
 refine sv (v := (vQ sb)) (x_assign rfl) ?_
 refine wpList_nil (X_then (hK7_ _ _ ?_))
 clear hK7_
 refine C_seq (fun K8_ hK8_ => C_reg ?_)
 refine sv (v := (vQ tb)) (x_move rfl) ?_
 refine sv (v := (vA #[((Value.iface it ix)), ((Value.iface jt jx))])) (x_loadN (vs := [((Value.iface it ix)), ((Value.iface jt jx))]) rfl Try.underlying111 rfl z111 rfl (Rd.cells (Holds.rd H4_ 0 rfl) 0 rfl)) ?_
 refine sv (v := ((Value.iface vt vx))) (x_move rfl) ?_
 refine S_list (T_callW (al := [(vQ tb), (vA #[((Value.iface it ix)), ((Value.iface jt jx))]), ((Value.iface vt vx))]) rfl rfl cb161 (Calls.into (n := 26) (al := [(vQ tb), (vA #[((Value.iface it ix)), ((Value.iface jt jx))]), ((Value.iface vt vx))]) Try.func161 rfl Try.ntmps161 rfl rfl ?_))
 refine C_seq (fun K9_ hK9_ => C_reg ?_)
 refine S_list (T_box (v := (vA #[((Value.iface it ix)), ((Value.iface jt jx))])) rfl H4_ ?_)
 intro b10_ w11_ S13_ H12_
 have S14_ := Same.trans S6_ S13_
 refine sv (v := (vP none)) (x_assign rfl) ?_
 refine wpList_nil (X_then (hK9_ _ _ ?_))
 clear hK9_
 refine C_seq (fun K15_ hK15_ => ?_)
 refine A_start (S := fun w => Rd b10_ [((Value.iface it ix)), ((Value.iface jt jx))] w ∧ Rd tb [(vQ (rt sb W)), (vI .i64 cnt), (vQ sb)] w ∧ RtRd w (rt sb W) (rmx W) ∧ Sub R (hp w)) (N := 20) foll rfl rfl ?_
 have H16_ := Holds.drew_ H12_
 have hq17_ := And.intro (Holds.rd H16_ 0 rfl) (And.intro (Holds.rd H16_ 3 rfl) (And.intro (Holds.tr_rd H16_ 4 rfl 5 rfl) ((Holds.ro_at H16_ 2 rfl))))
 refine A_tk 0 (v := (vA #[((Value.iface it ix)), ((Value.iface jt jx))])) rfl (by kernel_rfl) (fun w hS => x_loadN (vs := [((Value.iface it ix)), ((Value.iface jt jx))]) rfl Try.underlying111 rfl z111 rfl (Rd.cells hS.1 0 rfl)) hq17_ ?_
 refine A_tk 1 (v := ((Value.iface vt vx))) rfl (by kernel_rfl) (fun w hS => x_move rfl) hq17_ ?_
 refine A_tk 2 (v := (vA #[((Value.iface it ix)), ((Value.iface jt jx)), ((Value.iface vt vx))])) rfl (by kernel_rfl) (fun w hS => by kernel_rfl) hq17_ ?_
 refine A_tk 3 (v := (vP (some ⟨b10_, 1, none⟩))) rfl (by kernel_rfl) (fun w hS => by kernel_rfl) hq17_ ?_
 refine A_tk 4 (v := ((Value.iface jt jx))) rfl (by kernel_rfl) (fun w hS => x_load1 rfl Try.underlying109 rfl (hS.1 1 ((Value.iface jt jx)) rfl)) hq17_ ?_
 refine A_tk 5 (v := (vQ tb)) rfl (by kernel_rfl) (fun w hS => x_move rfl) hq17_ ?_
 refine A_tk 6 (v := (vQ tb)) rfl (by kernel_rfl) (fun w hS => by kernel_rfl) hq17_ ?_
 refine A_tk 7 (v := (vP (some ⟨tb, 2, none⟩))) rfl (by kernel_rfl) (fun w hS => by kernel_rfl) hq17_ ?_
 refine A_tk 8 (v := (vQ sb)) rfl (by kernel_rfl) (fun w hS => x_load1 rfl Try.underlying182 rfl (hS.2.1 2 (vQ sb) rfl)) hq17_ ?_
 refine A_tk 9 (v := (vQ tb)) rfl (by kernel_rfl) (fun w hS => x_move rfl) hq17_ ?_
 refine A_tk 10 (v := (vQ tb)) rfl (by kernel_rfl) (fun w hS => by kernel_rfl) hq17_ ?_
 refine A_tk 11 (v := (vP (some ⟨tb, 2, none⟩))) rfl (by kernel_rfl) (fun w hS => by kernel_rfl) hq17_ ?_
 refine A_tk 12 (v := (vQ sb)) rfl (by kernel_rfl) (fun w hS => x_load1 rfl Try.underlying182 rfl (hS.2.1 2 (vQ sb) rfl)) hq17_ ?_
 refine A_tk 13 (v := (vQ tb)) rfl (by kernel_rfl) (fun w hS => x_move rfl) hq17_ ?_
 refine A_tk 14 (v := (vQ tb)) rfl (by kernel_rfl) (fun w hS => by kernel_rfl) hq17_ ?_
 refine A_tk 15 (v := (vP (some ⟨tb, 2, none⟩))) rfl (by kernel_rfl) (fun w hS => by kernel_rfl) hq17_ ?_
 refine A_tk 16 (v := (vQ sb)) rfl (by kernel_rfl) (fun w hS => x_load1 rfl Try.underlying182 rfl (hS.2.1 2 (vQ sb) rfl)) hq17_ ?_
 refine A_tk 17 (v := (vA #[((Value.iface it ix)), ((Value.iface jt jx)), ((Value.iface vt vx)), ((Value.iface jt jx)), (vQ sb), (vQ sb), (vQ sb), (vI .i64 1)])) rfl (by kernel_rfl) (fun w hS => by kernel_rfl) hq17_ ?_
 refine A_ready (i := 18) (rs := []) (by kernel_rfl) ?_
 refine AllR.cons ?_ AllR.nil
 refine A_op (ls' := #[true, true, true, true, true, true, true, true, true, true, true, true, true, true, true, true, true, true, true, false]) rfl (by kernel_rfl) (T_boxf (v := (vA #[((Value.iface it ix)), ((Value.iface jt jx)), ((Value.iface vt vx)), ((Value.iface jt jx)), (vQ sb), (vQ sb), (vQ sb), (vI .i64 1)])) rfl H16_ ?_)
 intro b18_ w19_ S21_ H20_
 have S22_ := Same.trans (Same.trans S14_ (Same.drew _)) S21_
 refine ⟨⟨Holds.rd H20_ 1 rfl, Holds.rd H20_ 4 rfl, Holds.tr_rd H20_ 5 rfl 6 rfl, (Holds.ro_at H20_ 3 rfl)⟩, ?_⟩
 have hq23_ := And.intro (Holds.rd H20_ 1 rfl) (And.intro (Holds.rd H20_ 4 rfl) (And.intro (Holds.tr_rd H20_ 5 rfl 6 rfl) ((Holds.ro_at H20_ 3 rfl))))
 refine A_tk 19 (v := (vQ b18_)) rfl (by kernel_rfl) (fun w hS => x_assign rfl) hq23_ ?_
 refine A_done (by kernel_rfl) ?_
 refine (X_then (hK15_ _ _ ?_))
 clear hK15_
 refine C_ret ?_
 refine R_any (v := (vQ b18_)) (run_results1 rfl rfl) ⟨_, rfl, ?_⟩
 refine sv (v := (vQ b18_)) (x_assign rfl) ?_
 refine wpList_nil (X_then (hK8_ _ _ ?_))
 clear hK8_
 refine C_seq (fun K24_ hK24_ => C_reg ?_)
 refine sv (v := (vQ tb)) (x_move rfl) ?_
 refine sv (v := (vQ tb)) (by kernel_rfl) ?_
 refine sv (v := (vQ tb)) (by kernel_rfl) ?_
 refine sv (v := (vQ (rt sb W))) (x_load1 rfl Try.underlying182 rfl ((Holds.rd H20_ 4 rfl) 0 (vQ (rt sb W)) rfl)) ?_
 refine sv (v := (vQ (rt sb W))) (x_assign rfl) ?_
 refine wpList_nil (X_then (hK24_ _ _ ?_))
 clear hK24_
 refine C_seq (fun K25_ hK25_ => ?_)
 refine C_block ?_
 have H26_ : Holds w19_ (cx sb (rt sb W) ([] : List (Fr K)) :: clf b18_ 185 [((Value.iface it ix)), ((Value.iface jt jx)), ((Value.iface vt vx)), ((Value.iface jt jx)), (vQ sb), (vQ sb), (vQ sb), (vI .i64 1)] :: cl b10_ 111 [((Value.iface it ix)), ((Value.iface jt jx))] :: cl b2_ 111 [((Value.iface it ix)), ((Value.iface jt jx))] :: ro R :: cl tb 188 [(vQ (rt sb W)), (vI .i64 cnt), (vQ sb)] :: tr sb sb W :: clf sb 185 sc :: F) := Holds.cx_nil H20_
 have eH27_ : tr sb sb W = tr sb (pa sb ([] : List (Fr K))) W := by first | rfl | (congr 1 <;> first | rfl | omega | (simp; done) | (simp; omega))
 have H27_ : Holds w19_ (cx sb (rt sb W) ([] : List (Fr K)) :: clf b18_ 185 [((Value.iface it ix)), ((Value.iface jt jx)), ((Value.iface vt vx)), ((Value.iface jt jx)), (vQ sb), (vQ sb), (vQ sb), (vI .i64 1)] :: cl b10_ 111 [((Value.iface it ix)), ((Value.iface jt jx))] :: cl b2_ 111 [((Value.iface it ix)), ((Value.iface jt jx))] :: ro R :: cl tb 188 [(vQ (rt sb W)), (vI .i64 cnt), (vQ sb)] :: tr sb (pa sb ([] : List (Fr K))) W :: clf sb 185 sc :: F) := cast1 (P := fun c__ => Holds w19_ (cx sb (rt sb W) ([] : List (Fr K)) :: clf b18_ 185 [((Value.iface it ix)), ((Value.iface jt jx)), ((Value.iface vt vx)), ((Value.iface jt jx)), (vQ sb), (vQ sb), (vQ sb), (vI .i64 1)] :: cl b10_ 111 [((Value.iface it ix)), ((Value.iface jt jx))] :: cl b2_ 111 [((Value.iface it ix)), ((Value.iface jt jx))] :: ro R :: cl tb 188 [(vQ (rt sb W)), (vI .i64 cnt), (vQ sb)] :: c__ :: clf sb 185 sc :: F)) eH27_ H26_
 refine C_loop (γ := (List (Fr K)) × (Tr K)) (fun x__ a__ w1__ => match x__ with | ⟨C1, T⟩ => ∃ h : Env, a__ = mkA 165 (upd (upd (upd (upd h 0 (vQ tb)) 6 (vQ (pa sb C1))) 7 (vQ b18_)) 8 (vQ (rt sb T))) [] ∧ Holds w1__ (cx sb (rt sb T) C1 :: clf b18_ 185 [((Value.iface it ix)), ((Value.iface jt jx)), ((Value.iface vt vx)), ((Value.iface jt jx)), (vQ sb), (vQ sb), (vQ sb), (vI .i64 1)] :: cl b10_ 111 [((Value.iface it ix)), ((Value.iface jt jx))] :: cl b2_ 111 [((Value.iface it ix)), ((Value.iface jt jx))] :: ro R :: cl tb 188 [(vQ (rt sb W)), (vI .i64 cnt), (vQ sb)] :: tr sb (pa sb C1) T :: clf sb 185 sc :: F) ∧ Same w w1__ ∧ (plug C1 T = W) ∧ (way O kb ke C1) ∧ (TOk O R T) ∧ (COk O R C1)) (fun x__ => match x__ with | ⟨C1, T⟩ => (ino T).length) (⟨([] : List (Fr K)), W⟩) ⟨_, congrArg (fun e => mkA 165 e []) (ch (ch (ch (ch rfl rfl) ((by first | rfl | omega | (simp; done) | (simp; omega)) : (vQ sb) = (vQ ((pa sb ([] : List (Fr K))))))) rfl) rfl), H27_, S22_, (rfl), (trivial), (hW.1), (fun f hf => by cases hf)⟩ ?_
 rintro ⟨C1, T⟩ _ w28_ ⟨h, rfl, H29_, S30_, hpl, hway, hTk, hCk⟩
 refine C_seq (fun K31_ hK31_ => ?_)
 refine C_seq (fun K32_ hK32_ => C_reg ?_)
 rcases T with _ | ⟨f33_n, f33_a, f33_b⟩
 ·skip
  have H34_ : Holds w28_ (cx sb sb C1 :: clf b18_ 185 [((Value.iface it ix)), ((Value.iface jt jx)), ((Value.iface vt vx)), ((Value.iface jt jx)), (vQ sb), (vQ sb), (vQ sb), (vI .i64 1)] :: cl b10_ 111 [((Value.iface it ix)), ((Value.iface jt jx))] :: cl b2_ 111 [((Value.iface it ix)), ((Value.iface jt jx))] :: ro R :: cl tb 188 [(vQ (rt sb W)), (vI .i64 cnt), (vQ sb)] :: tr sb (pa sb C1) (Tr.lf : Tr K) :: clf sb 185 sc :: F) := (H29_)
  refine sv (v := (vQ sb)) (x_move rfl) ?_
  refine sv (v := (vQ tb)) (x_move rfl) ?_
  refine sv (v := (vQ tb)) (by kernel_rfl) ?_
  refine sv (v := (vP (some ⟨tb, 2, none⟩))) (by kernel_rfl) ?_
  refine sv (v := (vQ sb)) (x_load1 rfl Try.underlying182 rfl ((Holds.rd H34_ 5 rfl) 2 (vQ sb) rfl)) ?_
  refine sv (v := (vB false)) (x_neP rfl rfl Try.underlying182 z185) ?_
  refine wpList_nil (X_then (hK32_ _ _ ?_))
  clear hK32_
  refine C_condF rfl ?_
  refine C_exit (X_thenX (X_thenX (X_blkHit ?_)))
  refine (X_then (hK25_ _ _ ?_))
  clear hK25_
  refine C_seq (fun K35_ hK35_ => C_reg ?_)
  rcases C1 with _ | ⟨⟨_ | _, f36_p, f36_o⟩, f36_C⟩
  ·skip
   subst hpl
   have H37_ : Holds w28_ (cx sb sb ([] : List (Fr K)) :: clf b18_ 185 [((Value.iface it ix)), ((Value.iface jt jx)), ((Value.iface vt vx)), ((Value.iface jt jx)), (vQ sb), (vQ sb), (vQ sb), (vI .i64 1)] :: cl b10_ 111 [((Value.iface it ix)), ((Value.iface jt jx))] :: cl b2_ 111 [((Value.iface it ix)), ((Value.iface jt jx))] :: ro R :: cl tb 188 [(vQ sb), (vI .i64 cnt), (vQ sb)] :: tr sb sb (Tr.lf : Tr K) :: clf sb 185 sc :: F) := (H34_)
   refine sv (v := (vQ b18_)) (x_move rfl) ?_
   refine sv (v := (vQ sb)) (x_move rfl) ?_
   refine sv (v := (vQ b18_)) (by kernel_rfl) ?_
   refine sv (v := (vP (some ⟨b18_, 6, none⟩))) (by kernel_rfl) ?_
   refine S_list0 (T_store1f (v := (vQ sb)) rfl rfl z182 rfl H37_ 1 rfl (Nat.le_of_ble_eq_true (by rfl)) ?_)
   intro w38_ S40_ H39_
   have S41_ := Same.trans S30_ S40_
   refine wpList_nil (X_then (hK35_ _ _ ?_))
   clear hK35_
   refine C_seq (fun K42_ hK42_ => ?_)
   refine C_seq (fun K43_ hK43_ => C_reg ?_)
   refine sv (v := (vQ sb)) (x_move rfl) ?_
   refine sv (v := (vQ tb)) (x_move rfl) ?_
   refine sv (v := (vQ tb)) (by kernel_rfl) ?_
   refine sv (v := (vP (some ⟨tb, 2, none⟩))) (by kernel_rfl) ?_
   refine sv (v := (vQ sb)) (x_load1 rfl Try.underlying182 rfl ((Holds.rd H39_ 5 rfl) 2 (vQ sb) rfl)) ?_
   refine sv (v := (vB true)) (x_eqP rfl rfl Try.underlying182 z185) ?_
   refine wpList_nil (X_then (hK43_ _ _ ?_))
   clear hK43_
   refine C_condT rfl ?_
   refine C_reg ?_
   refine sv (v := (vQ tb)) (x_move rfl) ?_
   refine sv (v := (vQ b18_)) (x_move rfl) ?_
   refine sv (v := (vQ tb)) (by kernel_rfl) ?_
   refine sv (v := (vQ tb)) (by kernel_rfl) ?_
   refine S_list0 (T_store1 (v := (vQ b18_)) rfl rfl z182 rfl H39_ 5 rfl (Nat.le_of_ble_eq_true (by rfl)) ?_)
   intro w44_ S46_ H45_
   have S47_ := Same.trans S41_ S46_
   refine wpList_nil (X_then (hK42_ _ _ ?_))
   clear hK42_
   refine C_seq (fun K48_ hK48_ => C_reg ?_)
   refine sv (v := (vQ b18_)) (x_move rfl) ?_
   refine sv (v := (vQ b18_)) (by kernel_rfl) ?_
   refine sv (v := (vP (some ⟨b18_, 7, none⟩))) (by kernel_rfl) ?_
   refine S_list0 (T_store1f (v := (vI .i64 1)) rfl rfl z183 rfl H45_ 1 rfl (Nat.le_of_ble_eq_true (by rfl)) ?_)
   intro w49_ S51_ H50_
   have S52_ := Same.trans S47_ S51_
   refine wpList_nil (X_then (hK48_ _ _ ?_))
   clear hK48_
   refine C_seq (fun K53_ hK53_ => C_reg ?_)
   refine sv (v := (vQ tb)) (x_move rfl) ?_
   refine sv (v := (vQ b18_)) (x_move rfl) ?_
   have H54_ : Holds w49_ (cx sb sb ([] : List (Fr K)) :: clf b18_ 185 [((Value.iface it ix)), ((Value.iface jt jx)), ((Value.iface vt vx)), ((Value.iface jt jx)), (vQ sb), (vQ sb), (vQ sb), (vI .i64 1)] :: cl b10_ 111 [((Value.iface it ix)), ((Value.iface jt jx))] :: cl b2_ 111 [((Value.iface it ix)), ((Value.iface jt jx))] :: ro R :: cl tb 188 [(vQ b18_), (vI .i64 cnt), (vQ sb)] :: clf sb 185 sc :: F) := (Holds.pkF H50_ [0, 0, 0, 0, 0, 0, 1] 1 :)
   have H55_ : Holds w49_ (tr sb b18_ (Tr.lf : Tr K) :: cx sb sb ([] : List (Fr K)) :: clf b18_ 185 [((Value.iface it ix)), ((Value.iface jt jx)), ((Value.iface vt vx)), ((Value.iface jt jx)), (vQ sb), (vQ sb), (vQ sb), (vI .i64 1)] :: cl b10_ 111 [((Value.iface it ix)), ((Value.iface jt jx))] :: cl b2_ 111 [((Value.iface it ix)), ((Value.iface jt jx))] :: ro R :: cl tb 188 [(vQ b18_), (vI .i64 cnt), (vQ sb)] :: clf sb 185 sc :: F) := Holds.lf_tr H54_
   have H56_ : Holds w49_ (tr sb b18_ (Tr.lf : Tr K) :: tr sb b18_ (Tr.lf : Tr K) :: cx sb sb ([] : List (Fr K)) :: clf b18_ 185 [((Value.iface it ix)), ((Value.iface jt jx)), ((Value.iface vt vx)), ((Value.iface jt jx)), (vQ sb), (vQ sb), (vQ sb), (vI .i64 1)] :: cl b10_ 111 [((Value.iface it ix)), ((Value.iface jt jx))] :: cl b2_ 111 [((Value.iface it ix)), ((Value.iface jt jx))] :: ro R :: cl tb 188 [(vQ b18_), (vI .i64 cnt), (vQ sb)] :: clf sb 185 sc :: F) := Holds.lf_tr H55_
   have H57_ := ((Holds.bring (Holds.bring (Holds.bring H56_ 1 rfl) 1 rfl) 3 rfl) :)
   have H58_ := Holds.nd_tr (n := (⟨b18_, (Value.iface it ix), (Value.iface jt jx), (Value.iface vt vx), (Value.iface jt jx), 1, kb, ke, ke⟩ : ND K)) (a := (Tr.lf : Tr K)) (b := (Tr.lf : Tr K)) H57_
   have H59_ : Holds w49_ (tr sb (pa sb ([] : List (Fr K))) (Tr.nd (⟨b18_, (Value.iface it ix), (Value.iface jt jx), (Value.iface vt vx), (Value.iface jt jx), 1, kb, ke, ke⟩ : ND K) (Tr.lf : Tr K) (Tr.lf : Tr K)) :: cx sb b18_ ([] : List (Fr K)) :: cl b10_ 111 [((Value.iface it ix)), ((Value.iface jt jx))] :: cl b2_ 111 [((Value.iface it ix)), ((Value.iface jt jx))] :: ro R :: cl tb 188 [(vQ ((ra b18_ ([] : List (Fr K))))), (vI .i64 cnt), (vQ sb)] :: clf sb 185 sc :: F) := (H58_)
   have H60_ := H59_; rw [← pa_upC (O := O) sb ([] : List (Fr K)) (some ((Value.iface jt jx), ke)), ← ra_upC O ([] : List (Fr K)) b18_ (some ((Value.iface jt jx), ke))] at H60_
   have H61_ : Holds w49_ (tr sb (pa sb (upC O (some ((Value.iface jt jx), ke)) ([] : List (Fr K)))) (Tr.nd (⟨b18_, (Value.iface it ix), (Value.iface jt jx), (Value.iface vt vx), (Value.iface jt jx), 1, kb, ke, ke⟩ : ND K) (Tr.lf : Tr K) (Tr.lf : Tr K)) :: cx sb b18_ (upC O (some ((Value.iface jt jx), ke)) ([] : List (Fr K))) :: cl b10_ 111 [((Value.iface it ix)), ((Value.iface jt jx))] :: cl b2_ 111 [((Value.iface it ix)), ((Value.iface jt jx))] :: ro R :: cl tb 188 [(vQ ((ra b18_ (upC O (some ((Value.iface jt jx), ke)) ([] : List (Fr K)))))), (vI .i64 cnt), (vQ sb)] :: clf sb 185 sc :: F) := (H60_)
   have hFx_ : FxI O R (inl ([] : List (Fr K)) ++ (⟨b18_, (Value.iface it ix), (Value.iface jt jx), (Value.iface vt vx), (Value.iface jt jx), 1, kb, ke, ke⟩ : ND K).er :: inr ([] : List (Fr K))) (upC O (some ((Value.iface jt jx), ke)) ([] : List (Fr K))) (Tr.nd (⟨b18_, (Value.iface it ix), (Value.iface jt jx), (Value.iface vt vx), (Value.iface jt jx), 1, kb, ke, ke⟩ : ND K) (Tr.lf : Tr K) (Tr.lf : Tr K)) := ins_fx hW1 hCk hb he
   have H62_ := Holds.recl H61_ 5 rfl ((lcons ((by first | rfl | omega | (simp; done) | (simp; omega)) : (vQ ((ra b18_ (upC O (some ((Value.iface jt jx), ke)) ([] : List (Fr K)))))) = (vP (some ⟨(ra (⟨b18_, (Value.iface it ix), (Value.iface jt jx), (Value.iface vt vx), (Value.iface jt jx), 1, kb, ke, ke⟩ : ND K).a (upC O (some ((Value.iface jt jx), ke)) ([] : List (Fr K)))), 0, none⟩))) rfl) : [(vQ ((ra b18_ (upC O (some ((Value.iface jt jx), ke)) ([] : List (Fr K)))))), (vI .i64 cnt), (vQ sb)] = [(vP (some ⟨(ra (⟨b18_, (Value.iface it ix), (Value.iface jt jx), (Value.iface vt vx), (Value.iface jt jx), 1, kb, ke, ke⟩ : ND K).a (upC O (some ((Value.iface jt jx), ke)) ([] : List (Fr K)))), 0, none⟩)), (vI .i64 cnt), (vQ sb)])
   have eH63_ : cx sb b18_ (upC O (some ((Value.iface jt jx), ke)) ([] : List (Fr K))) = cx sb ((⟨b18_, (Value.iface it ix), (Value.iface jt jx), (Value.iface vt vx), (Value.iface jt jx), 1, kb, ke, ke⟩ : ND K).a) (upC O (some ((Value.iface jt jx), ke)) ([] : List (Fr K))) := by first | rfl | (congr 1 <;> first | rfl | omega | (simp; done) | (simp; omega))
   have H63_ : Holds w49_ (tr sb (pa sb (upC O (some ((Value.iface jt jx), ke)) ([] : List (Fr K)))) (Tr.nd (⟨b18_, (Value.iface it ix), (Value.iface jt jx), (Value.iface vt vx), (Value.iface jt jx), 1, kb, ke, ke⟩ : ND K) (Tr.lf : Tr K) (Tr.lf : Tr K)) :: cx sb ((⟨b18_, (Value.iface it ix), (Value.iface jt jx), (Value.iface vt vx), (Value.iface jt jx), 1, kb, ke, ke⟩ : ND K).a) (upC O (some ((Value.iface jt jx), ke)) ([] : List (Fr K))) :: cl b10_ 111 [((Value.iface it ix)), ((Value.iface jt jx))] :: cl b2_ 111 [((Value.iface it ix)), ((Value.iface jt jx))] :: ro R :: cl tb 188 [(vP (some ⟨(ra (⟨b18_, (Value.iface it ix), (Value.iface jt jx), (Value.iface vt vx), (Value.iface jt jx), 1, kb, ke, ke⟩ : ND K).a (upC O (some ((Value.iface jt jx), ke)) ([] : List (Fr K)))), 0, none⟩)), (vI .i64 cnt), (vQ sb)] :: clf sb 185 sc :: F) := cast1 (P := fun c__ => Holds w49_ (tr sb (pa sb (upC O (some ((Value.iface jt jx), ke)) ([] : List (Fr K)))) (Tr.nd (⟨b18_, (Value.iface it ix), (Value.iface jt jx), (Value.iface vt vx), (Value.iface jt jx), 1, kb, ke, ke⟩ : ND K) (Tr.lf : Tr K) (Tr.lf : Tr K)) :: c__ :: cl b10_ 111 [((Value.iface it ix)), ((Value.iface jt jx))] :: cl b2_ 111 [((Value.iface it ix)), ((Value.iface jt jx))] :: ro R :: cl tb 188 [(vP (some ⟨(ra (⟨b18_, (Value.iface it ix), (Value.iface jt jx), (Value.iface vt vx), (Value.iface jt jx), 1, kb, ke, ke⟩ : ND K).a (upC O (some ((Value.iface jt jx), ke)) ([] : List (Fr K)))), 0, none⟩)), (vI .i64 cnt), (vQ sb)] :: clf sb 185 sc :: F)) eH63_ H62_
   have H67_ := ((Holds.bring (Holds.bring (Holds.bring (Holds.bring (Holds.bring H63_ 6 rfl) 2 rfl) 2 rfl) 6 rfl) 6 rfl) :)
   refine S_list (T_call (al := [(vQ tb), (vP (some ⟨(⟨b18_, (Value.iface it ix), (Value.iface jt jx), (Value.iface vt vx), (Value.iface jt jx), 1, kb, ke, ke⟩ : ND K).a, 0, none⟩))]) (pre := [cl tb 188 [(vP (some ⟨(ra (⟨b18_, (Value.iface it ix), (Value.iface jt jx), (Value.iface vt vx), (Value.iface jt jx), 1, kb, ke, ke⟩ : ND K).a (upC O (some ((Value.iface jt jx), ke)) ([] : List (Fr K)))), 0, none⟩)), (vI .i64 cnt), (vQ sb)], tr sb (pa sb (upC O (some ((Value.iface jt jx), ke)) ([] : List (Fr K)))) (Tr.nd (⟨b18_, (Value.iface it ix), (Value.iface jt jx), (Value.iface vt vx), (Value.iface jt jx), 1, kb, ke, ke⟩ : ND K) (Tr.lf : Tr K) (Tr.lf : Tr K)), cx sb ((⟨b18_, (Value.iface it ix), (Value.iface jt jx), (Value.iface vt vx), (Value.iface jt jx), 1, kb, ke, ke⟩ : ND K).a) (upC O (some ((Value.iface jt jx), ke)) ([] : List (Fr K))), clf sb 185 sc]) rfl (lcons rfl (lcons ((by first | rfl | omega | (simp; done) | (simp; omega)) : (vQ b18_) = (vP (some ⟨(⟨b18_, (Value.iface it ix), (Value.iface jt jx), (Value.iface vt vx), (Value.iface jt jx), 1, kb, ke, ke⟩ : ND K).a, 0, none⟩))) rfl)) cb162 (itFix R K O tb sb cnt sc (⟨b18_, (Value.iface it ix), (Value.iface jt jx), (Value.iface vt vx), (Value.iface jt jx), 1, kb, ke, ke⟩ : ND K) (Tr.lf : Tr K) (Tr.lf : Tr K) (upC O (some ((Value.iface jt jx), ke)) ([] : List (Fr K))) (inl ([] : List (Fr K)) ++ (⟨b18_, (Value.iface it ix), (Value.iface jt jx), (Value.iface vt vx), (Value.iface jt jx), 1, kb, ke, ke⟩ : ND K).er :: inr ([] : List (Fr K))) (hFx_)) H67_ ?_)
   rintro v64_ p71_ w68_ ⟨W65_, rfl, rfl, he66_⟩ S70_ H69_
   have S72_ := Same.trans S52_ S70_
   refine wpList_nil (X_then (hK53_ _ _ ?_))
   clear hK53_
   refine C_reg ?_
   refine sv (v := (vQ tb)) (x_move rfl) ?_
   refine sv (v := (vQ tb)) (by kernel_rfl) ?_
   refine sv (v := (vP (some ⟨tb, 1, none⟩))) (by kernel_rfl) ?_
   refine sv (v := (vI .i64 cnt)) (x_load1 rfl Try.underlying3 rfl ((Holds.rd H69_ 1 rfl) 1 (vI .i64 cnt) rfl)) ?_
   refine sv (v := (vI .i64 (IntKind.i64.wrap (cnt + 1)))) (x_bin rfl rfl rfl) ?_
   refine sv (v := (vQ tb)) (by kernel_rfl) ?_
   refine sv (v := (vP (some ⟨tb, 1, none⟩))) (by kernel_rfl) ?_
   refine S_list0 (T_store1 (v := (vI .i64 (IntKind.i64.wrap (cnt + 1)))) rfl rfl z3 rfl H69_ 1 rfl (Nat.le_of_ble_eq_true (by rfl)) ?_)
   intro w73_ S75_ H74_
   have S76_ := Same.trans S72_ S75_
   refine wpList_nil ?_
   refine R_0 rfl ?_
   have H77_ : Holds w73_ (ro R :: cl tb 188 [(vQ (rt sb W65_)), (vI .i64 (IntKind.i64.wrap (cnt + 1))), (vQ sb)] :: tr sb sb W65_ :: clf sb 185 sc :: F) := (Holds.pkF H74_ [0, 0, 0, 0] 2 :)
   exact ⟨_, _, rfl, ⟨W65_, (inl ([] : List (Fr K))), (inr ([] : List (Fr K))), (⟨b18_, (Value.iface it ix), (Value.iface jt jx), (Value.iface vt vx), (Value.iface jt jx), 1, kb, ke, ke⟩ : ND K), rfl, rfl, (⟨he66_.1, he66_.2.1, he66_.2.2.2⟩), (he66_.2.2.1), (by rw [ino_plug]; simp [ino]), (⟨rfl, rfl, rfl, rfl, rfl⟩), (by rw [he66_.2.2.1]; exact ins_srt hway (by have := hs; rw [ino_plug] at this; simpa [ino] using this)), ((way_in (C := ([] : List (Fr K))) (M := []) hway (by have := hs; rw [ino_plug] at this; simpa [ino] using this)).1), ((way_in (C := ([] : List (Fr K))) (M := []) hway (by have := hs; rw [ino_plug] at this; simpa [ino] using this)).2)⟩, S76_, H77_⟩
  ·skip
   subst hpl
   have H78_ := H34_; rw [show rt sb (plug ((⟨false, f36_p, f36_o⟩ : Fr K) :: f36_C) (Tr.lf : Tr K)) = ra f36_p.a f36_C from rt_plug sb f36_C f36_p f36_o (Tr.lf : Tr K)] at H78_
   have H79_ : Holds w28_ (cx sb sb ((⟨false, f36_p, f36_o⟩ : Fr K) :: f36_C) :: clf b18_ 185 [((Value.iface it ix)), ((Value.iface jt jx)), ((Value.iface vt vx)), ((Value.iface jt jx)), (vQ sb), (vQ sb), (vQ sb), (vI .i64 1)] :: cl b10_ 111 [((Value.iface it ix)), ((Value.iface jt jx))] :: cl b2_ 111 [((Value.iface it ix)), ((Value.iface jt jx))] :: ro R :: cl tb 188 [(vQ (ra f36_p.a f36_C)), (vI .i64 cnt), (vQ sb)] :: tr sb f36_p.a (Tr.lf : Tr K) :: clf sb 185 sc :: F) := (H78_)
   have H80_ := Holds.cx_cons H79_
   obtain ⟨ht_, hcx_⟩ : LocT O (Tr.lf : Tr K) ∧ LocC O none ((⟨false, f36_p, f36_o⟩ : Fr K) :: f36_C) := loc_unplug (C := ((⟨false, f36_p, f36_o⟩ : Fr K) :: f36_C)) (t := (Tr.lf : Tr K)) hW1.2.1
   have hck_ : COk O R ((⟨false, f36_p, f36_o⟩ : Fr K) :: f36_C) := hCk
   have hkp_ := (hck_ _ (List.mem_cons_self ..)).1
   have hw_ := hway.1; unfold bef at hw_; simp only [if_true, if_false, Bool.false_eq_true] at hw_
   refine sv (v := (vQ b18_)) (x_move rfl) ?_
   refine sv (v := (vQ f36_p.a)) (x_move rfl) ?_
   refine sv (v := (vQ b18_)) (by kernel_rfl) ?_
   refine sv (v := (vP (some ⟨b18_, 6, none⟩))) (by kernel_rfl) ?_
   refine S_list0 (T_store1f (v := (vQ f36_p.a)) rfl rfl z182 rfl H80_ 3 rfl (Nat.le_of_ble_eq_true (by rfl)) ?_)
   intro w81_ S83_ H82_
   have S84_ := Same.trans S30_ S83_
   refine wpList_nil (X_then (hK35_ _ _ ?_))
   clear hK35_
   refine C_seq (fun K85_ hK85_ => ?_)
   refine C_seq (fun K86_ hK86_ => C_reg ?_)
   refine sv (v := (vQ f36_p.a)) (x_move rfl) ?_
   refine sv (v := (vQ tb)) (x_move rfl) ?_
   refine sv (v := (vQ tb)) (by kernel_rfl) ?_
   refine sv (v := (vP (some ⟨tb, 2, none⟩))) (by kernel_rfl) ?_
   refine sv (v := (vQ sb)) (x_load1 rfl Try.underlying182 rfl ((Holds.rd H82_ 7 rfl) 2 (vQ sb) rfl)) ?_
   have hpc87_ : f36_p.a ≠ sb := Holds.ne_f H82_ 0 rfl 9 rfl (by decide)
   refine sv (v := (vB false)) (x_cast (x_eqPN rfl rfl Try.underlying182 z185 (by decide) (Holds.blk H82_ 0 rfl) (Holds.blk H82_ 9 rfl)) (congrArg vB (decide_eq_false hpc87_))) ?_
   refine wpList_nil (X_then (hK86_ _ _ ?_))
   clear hK86_
   refine C_condF rfl ?_
   refine C_seq (fun K88_ hK88_ => ?_)
   refine A_start (S := fun w => (Rd f36_p.a [f36_p.b, f36_p.e, f36_p.v, f36_p.mx, (vQ (rt sb f36_o)), (vQ sb), (vQ (pa sb f36_C)), (vI .i64 f36_p.c)] w ∧ Blk w f36_p.a) ∧ RtRd w (rt sb f36_o) (rmx f36_o) ∧ (Rd b18_ [((Value.iface it ix)), ((Value.iface jt jx)), ((Value.iface vt vx)), ((Value.iface jt jx)), (vQ sb), (vQ sb), (vQ f36_p.a), (vI .i64 1)] w ∧ Blk w b18_) ∧ RtRd w (rt sb (Tr.lf : Tr K)) (rmx (Tr.lf : Tr K)) ∧ Sub R (hp w)) (N := 16) foll rfl rfl ?_
   have H89_ := Holds.drew_ H82_
   have hq90_ := And.intro ((And.intro (Holds.rdf H89_ 0 rfl) (Holds.blk H89_ 0 rfl))) (And.intro (Holds.tr_rd H89_ 1 rfl 9 rfl) (And.intro ((And.intro (Holds.rdf H89_ 3 rfl) (Holds.blk H89_ 3 rfl))) (And.intro (Holds.tr_rd H89_ 8 rfl 9 rfl) ((Holds.ro_at H89_ 6 rfl)))))
   refine A_tk 0 (v := (vQ b18_)) rfl (by kernel_rfl) (fun w hS => x_move rfl) hq90_ ?_
   refine A_tk 1 (v := (vQ b18_)) rfl (by kernel_rfl) (fun w hS => by kernel_rfl) hq90_ ?_
   refine A_tk 2 (v := (vQ b18_)) rfl (by kernel_rfl) (fun w hS => by kernel_rfl) hq90_ ?_
   refine A_tk 3 (v := (vQ b18_)) rfl (by kernel_rfl) (fun w hS => by kernel_rfl) hq90_ ?_
   refine A_tk 4 (v := (vQ b18_)) rfl (by kernel_rfl) (fun w hS => by kernel_rfl) hq90_ ?_
   refine A_tk 5 (v := ((Value.iface it ix))) rfl (by kernel_rfl) (fun w hS => x_load1 rfl Try.underlying109 rfl (hS.2.2.1.1 0 ((Value.iface it ix)) rfl)) hq90_ ?_
   refine A_tk 6 (v := (vQ f36_p.a)) rfl (by kernel_rfl) (fun w hS => x_move rfl) hq90_ ?_
   refine A_tk 7 (v := (vQ f36_p.a)) rfl (by kernel_rfl) (fun w hS => by kernel_rfl) hq90_ ?_
   refine A_tk 8 (v := (vQ f36_p.a)) rfl (by kernel_rfl) (fun w hS => by kernel_rfl) hq90_ ?_
   refine A_tk 9 (v := (vQ f36_p.a)) rfl (by kernel_rfl) (fun w hS => by kernel_rfl) hq90_ ?_
   refine A_tk 10 (v := (vQ f36_p.a)) rfl (by kernel_rfl) (fun w hS => by kernel_rfl) hq90_ ?_
   refine A_tk 11 (v := f36_p.b) rfl (by kernel_rfl) (fun w hS => x_load1 rfl Try.underlying109 rfl (hS.1.1 0 f36_p.b rfl)) hq90_ ?_
   refine A_tk 12 (v := ((Value.iface it ix))) rfl (by kernel_rfl) (fun w hS => by kernel_rfl) hq90_ ?_
   refine A_tk 13 (v := ((Value.iface it ix))) rfl (by kernel_rfl) (fun w hS => x_move rfl) hq90_ ?_
   refine A_ready (i := 14) (rs := []) (by kernel_rfl) ?_
   refine AllR.cons ?_ AllR.nil
   refine A_op (ls' := #[true, true, true, true, true, true, true, true, true, true, true, true, true, true, true, false]) rfl (by kernel_rfl) (T_cmp rfl rfl (O.cmp hb (hkp_.b)) H89_ 6 rfl ?_)
   intro w91_ S93_ H92_
   have S94_ := Same.trans (Same.trans S84_ (Same.drew _)) S93_
   refine ⟨⟨(And.intro (Holds.rdf H92_ 0 rfl) (Holds.blk H92_ 0 rfl)), Holds.tr_rd H92_ 1 rfl 9 rfl, (And.intro (Holds.rdf H92_ 3 rfl) (Holds.blk H92_ 3 rfl)), Holds.tr_rd H92_ 8 rfl 9 rfl, (Holds.ro_at H92_ 6 rfl)⟩, ?_⟩
   have hq95_ := And.intro ((And.intro (Holds.rdf H92_ 0 rfl) (Holds.blk H92_ 0 rfl))) (And.intro (Holds.tr_rd H92_ 1 rfl 9 rfl) (And.intro ((And.intro (Holds.rdf H92_ 3 rfl) (Holds.blk H92_ 3 rfl))) (And.intro (Holds.tr_rd H92_ 8 rfl 9 rfl) ((Holds.ro_at H92_ 6 rfl)))))
   refine A_tk 15 (v := (vI .i64 (O.cm kb f36_p.kb))) rfl (by kernel_rfl) (fun w hS => x_assign rfl) hq95_ ?_
   refine A_done (by kernel_rfl) ?_
   refine (X_then (hK88_ _ _ ?_))
   clear hK88_
   refine C_seq (fun K96_ hK96_ => ?_)
   refine C_seq (fun K97_ hK97_ => C_reg ?_)
   refine sv (v := (vI .i64 (O.cm kb f36_p.kb))) (x_move rfl) ?_
   refine sv (v := (vB (decide (O.cm kb f36_p.kb < 0)))) (x_bin rfl rfl rfl) ?_
   refine wpList_nil (X_then (hK97_ _ _ ?_))
   clear hK97_
   refine C_cond (b := decide (O.cm kb f36_p.kb < 0)) rfl (fun c98_t => ?_) (fun c98_f => ?_)
   ·have c98_tp : O.cm kb f36_p.kb < 0 := of_decide_eq_true c98_t
    omega
   ·have c98_fp : ¬ (O.cm kb f36_p.kb < 0) := of_decide_eq_false c98_f
    refine C_seq (fun K99_ hK99_ => C_reg ?_)
    refine sv (v := (vI .i64 (O.cm kb f36_p.kb))) (x_move rfl) ?_
    refine sv (v := (vB (decide (O.cm kb f36_p.kb = 0)))) (x_bin rfl rfl rfl) ?_
    refine wpList_nil (X_then (hK99_ _ _ ?_))
    clear hK99_
    refine C_cond (b := decide (O.cm kb f36_p.kb = 0)) rfl (fun c100_t => ?_) (fun c100_f => ?_)
    ·have c100_tp : O.cm kb f36_p.kb = 0 := of_decide_eq_true c100_t
     refine C_seq (fun K101_ hK101_ => ?_)
     refine A_start (S := fun w => (Rd f36_p.a [f36_p.b, f36_p.e, f36_p.v, f36_p.mx, (vQ (rt sb f36_o)), (vQ sb), (vQ (pa sb f36_C)), (vI .i64 f36_p.c)] w ∧ Blk w f36_p.a) ∧ RtRd w (rt sb f36_o) (rmx f36_o) ∧ (Rd b18_ [((Value.iface it ix)), ((Value.iface jt jx)), ((Value.iface vt vx)), ((Value.iface jt jx)), (vQ sb), (vQ sb), (vQ f36_p.a), (vI .i64 1)] w ∧ Blk w b18_) ∧ RtRd w (rt sb (Tr.lf : Tr K)) (rmx (Tr.lf : Tr K)) ∧ Sub R (hp w)) (N := 16) foll rfl rfl ?_
     have H102_ := Holds.drew_ H92_
     have hq103_ := And.intro ((And.intro (Holds.rdf H102_ 0 rfl) (Holds.blk H102_ 0 rfl))) (And.intro (Holds.tr_rd H102_ 1 rfl 9 rfl) (And.intro ((And.intro (Holds.rdf H102_ 3 rfl) (Holds.blk H102_ 3 rfl))) (And.intro (Holds.tr_rd H102_ 8 rfl 9 rfl) ((Holds.ro_at H102_ 6 rfl)))))
     refine A_tk 0 (v := (vQ b18_)) rfl (by kernel_rfl) (fun w hS => x_move rfl) hq103_ ?_
     refine A_tk 1 (v := (vQ b18_)) rfl (by kernel_rfl) (fun w hS => by kernel_rfl) hq103_ ?_
     refine A_tk 2 (v := (vQ b18_)) rfl (by kernel_rfl) (fun w hS => by kernel_rfl) hq103_ ?_
     refine A_tk 3 (v := (vQ b18_)) rfl (by kernel_rfl) (fun w hS => by kernel_rfl) hq103_ ?_
     refine A_tk 4 (v := (vP (some ⟨b18_, 1, none⟩))) rfl (by kernel_rfl) (fun w hS => by kernel_rfl) hq103_ ?_
     refine A_tk 5 (v := ((Value.iface jt jx))) rfl (by kernel_rfl) (fun w hS => x_load1 rfl Try.underlying109 rfl (hS.2.2.1.1 1 ((Value.iface jt jx)) rfl)) hq103_ ?_
     refine A_tk 6 (v := (vQ f36_p.a)) rfl (by kernel_rfl) (fun w hS => x_move rfl) hq103_ ?_
     refine A_tk 7 (v := (vQ f36_p.a)) rfl (by kernel_rfl) (fun w hS => by kernel_rfl) hq103_ ?_
     refine A_tk 8 (v := (vQ f36_p.a)) rfl (by kernel_rfl) (fun w hS => by kernel_rfl) hq103_ ?_
     refine A_tk 9 (v := (vQ f36_p.a)) rfl (by kernel_rfl) (fun w hS => by kernel_rfl) hq103_ ?_
     refine A_tk 10 (v := (vP (some ⟨f36_p.a, 1, none⟩))) rfl (by kernel_rfl) (fun w hS => by kernel_rfl) hq103_ ?_
     refine A_tk 11 (v := f36_p.e) rfl (by kernel_rfl) (fun w hS => x_load1 rfl Try.underlying109 rfl (hS.1.1 1 f36_p.e rfl)) hq103_ ?_
     refine A_tk 12 (v := ((Value.iface jt jx))) rfl (by kernel_rfl) (fun w hS => by kernel_rfl) hq103_ ?_
     refine A_tk 13 (v := ((Value.iface jt jx))) rfl (by kernel_rfl) (fun w hS => x_move rfl) hq103_ ?_
     refine A_ready (i := 14) (rs := []) (by kernel_rfl) ?_
     refine AllR.cons ?_ AllR.nil
     refine A_op (ls' := #[true, true, true, true, true, true, true, true, true, true, true, true, true, true, true, false]) rfl (by kernel_rfl) (T_cmp rfl rfl (O.cmp he (hkp_.e)) H102_ 6 rfl ?_)
     intro w104_ S106_ H105_
     have S107_ := Same.trans (Same.trans S94_ (Same.drew _)) S106_
     refine ⟨⟨(And.intro (Holds.rdf H105_ 0 rfl) (Holds.blk H105_ 0 rfl)), Holds.tr_rd H105_ 1 rfl 9 rfl, (And.intro (Holds.rdf H105_ 3 rfl) (Holds.blk H105_ 3 rfl)), Holds.tr_rd H105_ 8 rfl 9 rfl, (Holds.ro_at H105_ 6 rfl)⟩, ?_⟩
     have hq108_ := And.intro ((And.intro (Holds.rdf H105_ 0 rfl) (Holds.blk H105_ 0 rfl))) (And.intro (Holds.tr_rd H105_ 1 rfl 9 rfl) (And.intro ((And.intro (Holds.rdf H105_ 3 rfl) (Holds.blk H105_ 3 rfl))) (And.intro (Holds.tr_rd H105_ 8 rfl 9 rfl) ((Holds.ro_at H105_ 6 rfl)))))
     refine A_tk 15 (v := (vB (decide (O.cm ke f36_p.ke < 0)))) rfl (by kernel_rfl) (fun w hS => x_bin rfl rfl rfl) hq108_ ?_
     refine A_done (by kernel_rfl) ?_
     refine (X_then (hK101_ _ _ ?_))
     clear hK101_
     refine C_cond (b := decide (O.cm ke f36_p.ke < 0)) rfl (fun c109_t => ?_) (fun c109_f => ?_)
     ·have c109_tp : O.cm ke f36_p.ke < 0 := of_decide_eq_true c109_t
      omega
     ·have c109_fp : ¬ (O.cm ke f36_p.ke < 0) := of_decide_eq_false c109_f
      refine C_reg ?_
      refine sv (v := (vQ f36_p.a)) (x_move rfl) ?_
      refine sv (v := (vQ b18_)) (x_move rfl) ?_
      refine sv (v := (vQ f36_p.a)) (by kernel_rfl) ?_
      refine sv (v := (vP (some ⟨f36_p.a, 5, none⟩))) (by kernel_rfl) ?_
      refine S_list0 (T_store1f (v := (vQ b18_)) rfl rfl z182 rfl H105_ 0 rfl (Nat.le_of_ble_eq_true (by rfl)) ?_)
      intro w110_ S112_ H111_
      have S113_ := Same.trans S107_ S112_
      refine wpList_nil (X_then (hK96_ _ _ ?_))
      clear hK96_
      refine C_reg ?_
      refine sv (v := (vQ f36_p.a)) (x_move rfl) ?_
      refine sv (v := (vQ tb)) (x_move rfl) ?_
      refine sv (v := (vQ tb)) (by kernel_rfl) ?_
      refine sv (v := (vP (some ⟨tb, 2, none⟩))) (by kernel_rfl) ?_
      refine sv (v := (vQ sb)) (x_load1 rfl Try.underlying182 rfl ((Holds.rd H111_ 7 rfl) 2 (vQ sb) rfl)) ?_
      have H114_ := Holds.cons_cx (sb := sb) (f := (⟨false, f36_p, f36_o⟩ : Fr K)) (C := f36_C) (x := b18_) H111_
      have H115_ : Holds w110_ (cx sb (ha sb (some ((⟨b18_, (Value.iface it ix), (Value.iface jt jx), (Value.iface vt vx), (Value.iface jt jx), 1, kb, ke, ke⟩ : ND K), sb, sb, f36_p.a))) ((⟨false, f36_p, f36_o⟩ : Fr K) :: f36_C) :: hol (some ((⟨b18_, (Value.iface it ix), (Value.iface jt jx), (Value.iface vt vx), (Value.iface jt jx), 1, kb, ke, ke⟩ : ND K), sb, sb, f36_p.a)) :: cl b10_ 111 [((Value.iface it ix)), ((Value.iface jt jx))] :: cl b2_ 111 [((Value.iface it ix)), ((Value.iface jt jx))] :: ro R :: cl tb 188 [(vQ (ra f36_p.a f36_C)), (vI .i64 cnt), (vQ sb)] :: tr sb f36_p.a (Tr.lf : Tr K) :: clf sb 185 sc :: F) := (H114_)
      have H117_ := ((Holds.bring (Holds.bring (Holds.bring (Holds.bring H115_ 7 rfl) 1 rfl) 2 rfl) 5 rfl) :)
      refine S_list (T_call (al := [(vP (some ⟨(pa sb ((⟨false, f36_p, f36_o⟩ : Fr K) :: f36_C)), 0, none⟩)), (vQ sb)]) (pre := [hol (some ((⟨b18_, (Value.iface it ix), (Value.iface jt jx), (Value.iface vt vx), (Value.iface jt jx), 1, kb, ke, ke⟩ : ND K), sb, sb, f36_p.a)), cx sb (ha sb (some ((⟨b18_, (Value.iface it ix), (Value.iface jt jx), (Value.iface vt vx), (Value.iface jt jx), 1, kb, ke, ke⟩ : ND K), sb, sb, f36_p.a))) ((⟨false, f36_p, f36_o⟩ : Fr K) :: f36_C), clf sb 185 sc]) rfl (lcons ((by first | rfl | omega | (simp; done) | (simp; omega)) : (vQ f36_p.a) = (vP (some ⟨(pa sb ((⟨false, f36_p, f36_o⟩ : Fr K) :: f36_C)), 0, none⟩))) rfl) cb142 (itUpMax R K O sb sc (some ((⟨b18_, (Value.iface it ix), (Value.iface jt jx), (Value.iface vt vx), (Value.iface jt jx), 1, kb, ke, ke⟩ : ND K), sb, sb, f36_p.a)) ((⟨false, f36_p, f36_o⟩ : Fr K) :: f36_C) (hck_) (fun q hq => by cases hq; exact he)) H117_ ?_)
      rintro v116_ p121_ w118_ ⟨rfl, rfl⟩ S120_ H119_
      have S122_ := Same.trans S113_ S120_
      have H123_ : Holds w118_ (ro R :: clf b18_ 185 [((Value.iface it ix)), ((Value.iface jt jx)), ((Value.iface vt vx)), ((Value.iface jt jx)), (vQ sb), (vQ sb), (vQ f36_p.a), (vI .i64 1)] :: cx sb b18_ (upC O (some ((Value.iface jt jx), ke)) ((⟨false, f36_p, f36_o⟩ : Fr K) :: f36_C)) :: clf sb 185 sc :: cl b10_ 111 [((Value.iface it ix)), ((Value.iface jt jx))] :: cl b2_ 111 [((Value.iface it ix)), ((Value.iface jt jx))] :: cl tb 188 [(vQ (ra f36_p.a f36_C)), (vI .i64 cnt), (vQ sb)] :: tr sb f36_p.a (Tr.lf : Tr K) :: F) := (H119_)
      refine wpList_nil (X_then (hK85_ _ _ ?_))
      clear hK85_
      refine C_seq (fun K124_ hK124_ => C_reg ?_)
      refine sv (v := (vQ b18_)) (x_move rfl) ?_
      refine sv (v := (vQ b18_)) (by kernel_rfl) ?_
      refine sv (v := (vP (some ⟨b18_, 7, none⟩))) (by kernel_rfl) ?_
      refine S_list0 (T_store1f (v := (vI .i64 1)) rfl rfl z183 rfl H123_ 1 rfl (Nat.le_of_ble_eq_true (by rfl)) ?_)
      intro w125_ S127_ H126_
      have S128_ := Same.trans S122_ S127_
      refine wpList_nil (X_then (hK124_ _ _ ?_))
      clear hK124_
      refine C_seq (fun K129_ hK129_ => C_reg ?_)
      refine sv (v := (vQ tb)) (x_move rfl) ?_
      refine sv (v := (vQ b18_)) (x_move rfl) ?_
      have H130_ : Holds w125_ (ro R :: clf b18_ 185 [((Value.iface it ix)), ((Value.iface jt jx)), ((Value.iface vt vx)), ((Value.iface jt jx)), (vQ sb), (vQ sb), (vQ f36_p.a), (vI .i64 1)] :: cx sb b18_ (upC O (some ((Value.iface jt jx), ke)) ((⟨false, f36_p, f36_o⟩ : Fr K) :: f36_C)) :: clf sb 185 sc :: cl b10_ 111 [((Value.iface it ix)), ((Value.iface jt jx))] :: cl b2_ 111 [((Value.iface it ix)), ((Value.iface jt jx))] :: cl tb 188 [(vQ (ra f36_p.a f36_C)), (vI .i64 cnt), (vQ sb)] :: F) := (Holds.pkF H126_ [0, 0, 0, 0, 0, 0, 0] 1 :)
      have H131_ : Holds w125_ (tr sb b18_ (Tr.lf : Tr K) :: ro R :: clf b18_ 185 [((Value.iface it ix)), ((Value.iface jt jx)), ((Value.iface vt vx)), ((Value.iface jt jx)), (vQ sb), (vQ sb), (vQ f36_p.a), (vI .i64 1)] :: cx sb b18_ (upC O (some ((Value.iface jt jx), ke)) ((⟨false, f36_p, f36_o⟩ : Fr K) :: f36_C)) :: clf sb 185 sc :: cl b10_ 111 [((Value.iface it ix)), ((Value.iface jt jx))] :: cl b2_ 111 [((Value.iface it ix)), ((Value.iface jt jx))] :: cl tb 188 [(vQ (ra f36_p.a f36_C)), (vI .i64 cnt), (vQ sb)] :: F) := Holds.lf_tr H130_
      have H132_ : Holds w125_ (tr sb b18_ (Tr.lf : Tr K) :: tr sb b18_ (Tr.lf : Tr K) :: ro R :: clf b18_ 185 [((Value.iface it ix)), ((Value.iface jt jx)), ((Value.iface vt vx)), ((Value.iface jt jx)), (vQ sb), (vQ sb), (vQ f36_p.a), (vI .i64 1)] :: cx sb b18_ (upC O (some ((Value.iface jt jx), ke)) ((⟨false, f36_p, f36_o⟩ : Fr K) :: f36_C)) :: clf sb 185 sc :: cl b10_ 111 [((Value.iface it ix)), ((Value.iface jt jx))] :: cl b2_ 111 [((Value.iface it ix)), ((Value.iface jt jx))] :: cl tb 188 [(vQ (ra f36_p.a f36_C)), (vI .i64 cnt), (vQ sb)] :: F) := Holds.lf_tr H131_
      have H133_ := ((Holds.bring (Holds.bring (Holds.bring H132_ 1 rfl) 1 rfl) 3 rfl) :)
      have H134_ := Holds.nd_tr (n := (⟨b18_, (Value.iface it ix), (Value.iface jt jx), (Value.iface vt vx), (Value.iface jt jx), 1, kb, ke, ke⟩ : ND K)) (a := (Tr.lf : Tr K)) (b := (Tr.lf : Tr K)) H133_
      have H135_ : Holds w125_ (tr sb (pa sb ((⟨false, f36_p, f36_o⟩ : Fr K) :: f36_C)) (Tr.nd (⟨b18_, (Value.iface it ix), (Value.iface jt jx), (Value.iface vt vx), (Value.iface jt jx), 1, kb, ke, ke⟩ : ND K) (Tr.lf : Tr K) (Tr.lf : Tr K)) :: ro R :: cx sb b18_ (upC O (some ((Value.iface jt jx), ke)) ((⟨false, f36_p, f36_o⟩ : Fr K) :: f36_C)) :: clf sb 185 sc :: cl b10_ 111 [((Value.iface it ix)), ((Value.iface jt jx))] :: cl b2_ 111 [((Value.iface it ix)), ((Value.iface jt jx))] :: cl tb 188 [(vP (some ⟨(ra b18_ ((⟨false, f36_p, f36_o⟩ : Fr K) :: f36_C)), 0, none⟩)), (vI .i64 cnt), (vQ sb)] :: F) := (H134_)
      have H136_ := H135_; rw [← pa_upC (O := O) sb ((⟨false, f36_p, f36_o⟩ : Fr K) :: f36_C) (some ((Value.iface jt jx), ke)), ← ra_upC O ((⟨false, f36_p, f36_o⟩ : Fr K) :: f36_C) b18_ (some ((Value.iface jt jx), ke))] at H136_
      have H137_ : Holds w125_ (tr sb (pa sb (upC O (some ((Value.iface jt jx), ke)) ((⟨false, f36_p, f36_o⟩ : Fr K) :: f36_C))) (Tr.nd (⟨b18_, (Value.iface it ix), (Value.iface jt jx), (Value.iface vt vx), (Value.iface jt jx), 1, kb, ke, ke⟩ : ND K) (Tr.lf : Tr K) (Tr.lf : Tr K)) :: ro R :: cx sb b18_ (upC O (some ((Value.iface jt jx), ke)) ((⟨false, f36_p, f36_o⟩ : Fr K) :: f36_C)) :: clf sb 185 sc :: cl b10_ 111 [((Value.iface it ix)), ((Value.iface jt jx))] :: cl b2_ 111 [((Value.iface it ix)), ((Value.iface jt jx))] :: cl tb 188 [(vP (some ⟨(ra b18_ (upC O (some ((Value.iface jt jx), ke)) ((⟨false, f36_p, f36_o⟩ : Fr K) :: f36_C))), 0, none⟩)), (vI .i64 cnt), (vQ sb)] :: F) := (H136_)
      have hFx_ : FxI O R (inl ((⟨false, f36_p, f36_o⟩ : Fr K) :: f36_C) ++ (⟨b18_, (Value.iface it ix), (Value.iface jt jx), (Value.iface vt vx), (Value.iface jt jx), 1, kb, ke, ke⟩ : ND K).er :: inr ((⟨false, f36_p, f36_o⟩ : Fr K) :: f36_C)) (upC O (some ((Value.iface jt jx), ke)) ((⟨false, f36_p, f36_o⟩ : Fr K) :: f36_C)) (Tr.nd (⟨b18_, (Value.iface it ix), (Value.iface jt jx), (Value.iface vt vx), (Value.iface jt jx), 1, kb, ke, ke⟩ : ND K) (Tr.lf : Tr K) (Tr.lf : Tr K)) := ins_fx hW1 hCk hb he
      have H138_ := Holds.recl H137_ 6 rfl ((lcons ((by first | rfl | omega | (simp; done) | (simp; omega)) : (vP (some ⟨(ra b18_ (upC O (some ((Value.iface jt jx), ke)) ((⟨false, f36_p, f36_o⟩ : Fr K) :: f36_C))), 0, none⟩)) = (vP (some ⟨(ra (⟨b18_, (Value.iface it ix), (Value.iface jt jx), (Value.iface vt vx), (Value.iface jt jx), 1, kb, ke, ke⟩ : ND K).a (upC O (some ((Value.iface jt jx), ke)) ((⟨false, f36_p, f36_o⟩ : Fr K) :: f36_C))), 0, none⟩))) rfl) : [(vP (some ⟨(ra b18_ (upC O (some ((Value.iface jt jx), ke)) ((⟨false, f36_p, f36_o⟩ : Fr K) :: f36_C))), 0, none⟩)), (vI .i64 cnt), (vQ sb)] = [(vP (some ⟨(ra (⟨b18_, (Value.iface it ix), (Value.iface jt jx), (Value.iface vt vx), (Value.iface jt jx), 1, kb, ke, ke⟩ : ND K).a (upC O (some ((Value.iface jt jx), ke)) ((⟨false, f36_p, f36_o⟩ : Fr K) :: f36_C))), 0, none⟩)), (vI .i64 cnt), (vQ sb)])
      have eH139_ : cx sb b18_ (upC O (some ((Value.iface jt jx), ke)) ((⟨false, f36_p, f36_o⟩ : Fr K) :: f36_C)) = cx sb ((⟨b18_, (Value.iface it ix), (Value.iface jt jx), (Value.iface vt vx), (Value.iface jt jx), 1, kb, ke, ke⟩ : ND K).a) (upC O (some ((Value.iface jt jx), ke)) ((⟨false, f36_p, f36_o⟩ : Fr K) :: f36_C)) := by first | rfl | (congr 1 <;> first | rfl | omega | (simp; done) | (simp; omega))
      have H139_ : Holds w125_ (tr sb (pa sb (upC O (some ((Value.iface jt jx), ke)) ((⟨false, f36_p, f36_o⟩ : Fr K) :: f36_C))) (Tr.nd (⟨b18_, (Value.iface it ix), (Value.iface jt jx), (Value.iface vt vx), (Value.iface jt jx), 1, kb, ke, ke⟩ : ND K) (Tr.lf : Tr K) (Tr.lf : Tr K)) :: ro R :: cx sb ((⟨b18_, (Value.iface it ix), (Value.iface jt jx), (Value.iface vt vx), (Value.iface jt jx), 1, kb, ke, ke⟩ : ND K).a) (upC O (some ((Value.iface jt jx), ke)) ((⟨false, f36_p, f36_o⟩ : Fr K) :: f36_C)) :: clf sb 185 sc :: cl b10_ 111 [((Value.iface it ix)), ((Value.iface jt jx))] :: cl b2_ 111 [((Value.iface it ix)), ((Value.iface jt jx))] :: cl tb 188 [(vP (some ⟨(ra (⟨b18_, (Value.iface it ix), (Value.iface jt jx), (Value.iface vt vx), (Value.iface jt jx), 1, kb, ke, ke⟩ : ND K).a (upC O (some ((Value.iface jt jx), ke)) ((⟨false, f36_p, f36_o⟩ : Fr K) :: f36_C))), 0, none⟩)), (vI .i64 cnt), (vQ sb)] :: F) := cast1 (P := fun c__ => Holds w125_ (tr sb (pa sb (upC O (some ((Value.iface jt jx), ke)) ((⟨false, f36_p, f36_o⟩ : Fr K) :: f36_C))) (Tr.nd (⟨b18_, (Value.iface it ix), (Value.iface jt jx), (Value.iface vt vx), (Value.iface jt jx), 1, kb, ke, ke⟩ : ND K) (Tr.lf : Tr K) (Tr.lf : Tr K)) :: ro R :: c__ :: clf sb 185 sc :: cl b10_ 111 [((Value.iface it ix)), ((Value.iface jt jx))] :: cl b2_ 111 [((Value.iface it ix)), ((Value.iface jt jx))] :: cl tb 188 [(vP (some ⟨(ra (⟨b18_, (Value.iface it ix), (Value.iface jt jx), (Value.iface vt vx), (Value.iface jt jx), 1, kb, ke, ke⟩ : ND K).a (upC O (some ((Value.iface jt jx), ke)) ((⟨false, f36_p, f36_o⟩ : Fr K) :: f36_C))), 0, none⟩)), (vI .i64 cnt), (vQ sb)] :: F)) eH139_ H138_
      have H143_ := ((Holds.bring (Holds.bring (Holds.bring (Holds.bring (Holds.bring H139_ 3 rfl) 3 rfl) 2 rfl) 6 rfl) 4 rfl) :)
      refine S_list (T_call (al := [(vQ tb), (vP (some ⟨(⟨b18_, (Value.iface it ix), (Value.iface jt jx), (Value.iface vt vx), (Value.iface jt jx), 1, kb, ke, ke⟩ : ND K).a, 0, none⟩))]) (pre := [cl tb 188 [(vP (some ⟨(ra (⟨b18_, (Value.iface it ix), (Value.iface jt jx), (Value.iface vt vx), (Value.iface jt jx), 1, kb, ke, ke⟩ : ND K).a (upC O (some ((Value.iface jt jx), ke)) ((⟨false, f36_p, f36_o⟩ : Fr K) :: f36_C))), 0, none⟩)), (vI .i64 cnt), (vQ sb)], tr sb (pa sb (upC O (some ((Value.iface jt jx), ke)) ((⟨false, f36_p, f36_o⟩ : Fr K) :: f36_C))) (Tr.nd (⟨b18_, (Value.iface it ix), (Value.iface jt jx), (Value.iface vt vx), (Value.iface jt jx), 1, kb, ke, ke⟩ : ND K) (Tr.lf : Tr K) (Tr.lf : Tr K)), cx sb ((⟨b18_, (Value.iface it ix), (Value.iface jt jx), (Value.iface vt vx), (Value.iface jt jx), 1, kb, ke, ke⟩ : ND K).a) (upC O (some ((Value.iface jt jx), ke)) ((⟨false, f36_p, f36_o⟩ : Fr K) :: f36_C)), clf sb 185 sc]) rfl (lcons rfl (lcons ((by first | rfl | omega | (simp; done) | (simp; omega)) : (vQ b18_) = (vP (some ⟨(⟨b18_, (Value.iface it ix), (Value.iface jt jx), (Value.iface vt vx), (Value.iface jt jx), 1, kb, ke, ke⟩ : ND K).a, 0, none⟩))) rfl)) cb162 (itFix R K O tb sb cnt sc (⟨b18_, (Value.iface it ix), (Value.iface jt jx), (Value.iface vt vx), (Value.iface jt jx), 1, kb, ke, ke⟩ : ND K) (Tr.lf : Tr K) (Tr.lf : Tr K) (upC O (some ((Value.iface jt jx), ke)) ((⟨false, f36_p, f36_o⟩ : Fr K) :: f36_C)) (inl ((⟨false, f36_p, f36_o⟩ : Fr K) :: f36_C) ++ (⟨b18_, (Value.iface it ix), (Value.iface jt jx), (Value.iface vt vx), (Value.iface jt jx), 1, kb, ke, ke⟩ : ND K).er :: inr ((⟨false, f36_p, f36_o⟩ : Fr K) :: f36_C)) (hFx_)) H143_ ?_)
      rintro v140_ p147_ w144_ ⟨W141_, rfl, rfl, he142_⟩ S146_ H145_
      have S148_ := Same.trans S128_ S146_
      refine wpList_nil (X_then (hK129_ _ _ ?_))
      clear hK129_
      refine C_reg ?_
      refine sv (v := (vQ tb)) (x_move rfl) ?_
      refine sv (v := (vQ tb)) (by kernel_rfl) ?_
      refine sv (v := (vP (some ⟨tb, 1, none⟩))) (by kernel_rfl) ?_
      refine sv (v := (vI .i64 cnt)) (x_load1 rfl Try.underlying3 rfl ((Holds.rd H145_ 1 rfl) 1 (vI .i64 cnt) rfl)) ?_
      refine sv (v := (vI .i64 (IntKind.i64.wrap (cnt + 1)))) (x_bin rfl rfl rfl) ?_
      refine sv (v := (vQ tb)) (by kernel_rfl) ?_
      refine sv (v := (vP (some ⟨tb, 1, none⟩))) (by kernel_rfl) ?_
      refine S_list0 (T_store1 (v := (vI .i64 (IntKind.i64.wrap (cnt + 1)))) rfl rfl z3 rfl H145_ 1 rfl (Nat.le_of_ble_eq_true (by rfl)) ?_)
      intro w149_ S151_ H150_
      have S152_ := Same.trans S148_ S151_
      refine wpList_nil ?_
      refine R_0 rfl ?_
      have H153_ : Holds w149_ (ro R :: cl tb 188 [(vQ (rt sb W141_)), (vI .i64 (IntKind.i64.wrap (cnt + 1))), (vQ sb)] :: tr sb sb W141_ :: clf sb 185 sc :: F) := (Holds.pkF H150_ [0, 0, 0, 0] 2 :)
      exact ⟨_, _, rfl, ⟨W141_, (inl ((⟨false, f36_p, f36_o⟩ : Fr K) :: f36_C)), (inr ((⟨false, f36_p, f36_o⟩ : Fr K) :: f36_C)), (⟨b18_, (Value.iface it ix), (Value.iface jt jx), (Value.iface vt vx), (Value.iface jt jx), 1, kb, ke, ke⟩ : ND K), rfl, rfl, (⟨he142_.1, he142_.2.1, he142_.2.2.2⟩), (he142_.2.2.1), (by rw [ino_plug]; simp [ino]), (⟨rfl, rfl, rfl, rfl, rfl⟩), (by rw [he142_.2.2.1]; exact ins_srt hway (by have := hs; rw [ino_plug] at this; simpa [ino] using this)), ((way_in (C := ((⟨false, f36_p, f36_o⟩ : Fr K) :: f36_C)) (M := []) hway (by have := hs; rw [ino_plug] at this; simpa [ino] using this)).1), ((way_in (C := ((⟨false, f36_p, f36_o⟩ : Fr K) :: f36_C)) (M := []) hway (by have := hs; rw [ino_plug] at this; simpa [ino] using this)).2)⟩, S152_, H153_⟩
    ·have c100_fp : ¬ (O.cm kb f36_p.kb = 0) := of_decide_eq_false c100_f
     refine C_reg ?_
     refine sv (v := (vQ f36_p.a)) (x_move rfl) ?_
     refine sv (v := (vQ b18_)) (x_move rfl) ?_
     refine sv (v := (vQ f36_p.a)) (by kernel_rfl) ?_
     refine sv (v := (vP (some ⟨f36_p.a, 5, none⟩))) (by kernel_rfl) ?_
     refine S_list0 (T_store1f (v := (vQ b18_)) rfl rfl z182 rfl H92_ 0 rfl (Nat.le_of_ble_eq_true (by rfl)) ?_)
     intro w154_ S156_ H155_
     have S157_ := Same.trans S94_ S156_
     refine wpList_nil (X_then (hK96_ _ _ ?_))
     clear hK96_
     refine C_reg ?_
     refine sv (v := (vQ f36_p.a)) (x_move rfl) ?_
     refine sv (v := (vQ tb)) (x_move rfl) ?_
     refine sv (v := (vQ tb)) (by kernel_rfl) ?_
     refine sv (v := (vP (some ⟨tb, 2, none⟩))) (by kernel_rfl) ?_
     refine sv (v := (vQ sb)) (x_load1 rfl Try.underlying182 rfl ((Holds.rd H155_ 7 rfl) 2 (vQ sb) rfl)) ?_
     have H158_ := Holds.cons_cx (sb := sb) (f := (⟨false, f36_p, f36_o⟩ : Fr K)) (C := f36_C) (x := b18_) H155_
     have H159_ : Holds w154_ (cx sb (ha sb (some ((⟨b18_, (Value.iface it ix), (Value.iface jt jx), (Value.iface vt vx), (Value.iface jt jx), 1, kb, ke, ke⟩ : ND K), sb, sb, f36_p.a))) ((⟨false, f36_p, f36_o⟩ : Fr K) :: f36_C) :: hol (some ((⟨b18_, (Value.iface it ix), (Value.iface jt jx), (Value.iface vt vx), (Value.iface jt jx), 1, kb, ke, ke⟩ : ND K), sb, sb, f36_p.a)) :: cl b10_ 111 [((Value.iface it ix)), ((Value.iface jt jx))] :: cl b2_ 111 [((Value.iface it ix)), ((Value.iface jt jx))] :: ro R :: cl tb 188 [(vQ (ra f36_p.a f36_C)), (vI .i64 cnt), (vQ sb)] :: tr sb f36_p.a (Tr.lf : Tr K) :: clf sb 185 sc :: F) := (H158_)
     have H161_ := ((Holds.bring (Holds.bring (Holds.bring (Holds.bring H159_ 7 rfl) 1 rfl) 2 rfl) 5 rfl) :)
     refine S_list (T_call (al := [(vP (some ⟨(pa sb ((⟨false, f36_p, f36_o⟩ : Fr K) :: f36_C)), 0, none⟩)), (vQ sb)]) (pre := [hol (some ((⟨b18_, (Value.iface it ix), (Value.iface jt jx), (Value.iface vt vx), (Value.iface jt jx), 1, kb, ke, ke⟩ : ND K), sb, sb, f36_p.a)), cx sb (ha sb (some ((⟨b18_, (Value.iface it ix), (Value.iface jt jx), (Value.iface vt vx), (Value.iface jt jx), 1, kb, ke, ke⟩ : ND K), sb, sb, f36_p.a))) ((⟨false, f36_p, f36_o⟩ : Fr K) :: f36_C), clf sb 185 sc]) rfl (lcons ((by first | rfl | omega | (simp; done) | (simp; omega)) : (vQ f36_p.a) = (vP (some ⟨(pa sb ((⟨false, f36_p, f36_o⟩ : Fr K) :: f36_C)), 0, none⟩))) rfl) cb142 (itUpMax R K O sb sc (some ((⟨b18_, (Value.iface it ix), (Value.iface jt jx), (Value.iface vt vx), (Value.iface jt jx), 1, kb, ke, ke⟩ : ND K), sb, sb, f36_p.a)) ((⟨false, f36_p, f36_o⟩ : Fr K) :: f36_C) (hck_) (fun q hq => by cases hq; exact he)) H161_ ?_)
     rintro v160_ p165_ w162_ ⟨rfl, rfl⟩ S164_ H163_
     have S166_ := Same.trans S157_ S164_
     have H167_ : Holds w162_ (ro R :: clf b18_ 185 [((Value.iface it ix)), ((Value.iface jt jx)), ((Value.iface vt vx)), ((Value.iface jt jx)), (vQ sb), (vQ sb), (vQ f36_p.a), (vI .i64 1)] :: cx sb b18_ (upC O (some ((Value.iface jt jx), ke)) ((⟨false, f36_p, f36_o⟩ : Fr K) :: f36_C)) :: clf sb 185 sc :: cl b10_ 111 [((Value.iface it ix)), ((Value.iface jt jx))] :: cl b2_ 111 [((Value.iface it ix)), ((Value.iface jt jx))] :: cl tb 188 [(vQ (ra f36_p.a f36_C)), (vI .i64 cnt), (vQ sb)] :: tr sb f36_p.a (Tr.lf : Tr K) :: F) := (H163_)
     refine wpList_nil (X_then (hK85_ _ _ ?_))
     clear hK85_
     refine C_seq (fun K168_ hK168_ => C_reg ?_)
     refine sv (v := (vQ b18_)) (x_move rfl) ?_
     refine sv (v := (vQ b18_)) (by kernel_rfl) ?_
     refine sv (v := (vP (some ⟨b18_, 7, none⟩))) (by kernel_rfl) ?_
     refine S_list0 (T_store1f (v := (vI .i64 1)) rfl rfl z183 rfl H167_ 1 rfl (Nat.le_of_ble_eq_true (by rfl)) ?_)
     intro w169_ S171_ H170_
     have S172_ := Same.trans S166_ S171_
     refine wpList_nil (X_then (hK168_ _ _ ?_))
     clear hK168_
     refine C_seq (fun K173_ hK173_ => C_reg ?_)
     refine sv (v := (vQ tb)) (x_move rfl) ?_
     refine sv (v := (vQ b18_)) (x_move rfl) ?_
     have H174_ : Holds w169_ (ro R :: clf b18_ 185 [((Value.iface it ix)), ((Value.iface jt jx)), ((Value.iface vt vx)), ((Value.iface jt jx)), (vQ sb), (vQ sb), (vQ f36_p.a), (vI .i64 1)] :: cx sb b18_ (upC O (some ((Value.iface jt jx), ke)) ((⟨false, f36_p, f36_o⟩ : Fr K) :: f36_C)) :: clf sb 185 sc :: cl b10_ 111 [((Value.iface it ix)), ((Value.iface jt jx))] :: cl b2_ 111 [((Value.iface it ix)), ((Value.iface jt jx))] :: cl tb 188 [(vQ (ra f36_p.a f36_C)), (vI .i64 cnt), (vQ sb)] :: F) := (Holds.pkF H170_ [0, 0, 0, 0, 0, 0, 0] 1 :)
     have H175_ : Holds w169_ (tr sb b18_ (Tr.lf : Tr K) :: ro R :: clf b18_ 185 [((Value.iface it ix)), ((Value.iface jt jx)), ((Value.iface vt vx)), ((Value.iface jt jx)), (vQ sb), (vQ sb), (vQ f36_p.a), (vI .i64 1)] :: cx sb b18_ (upC O (some ((Value.iface jt jx), ke)) ((⟨false, f36_p, f36_o⟩ : Fr K) :: f36_C)) :: clf sb 185 sc :: cl b10_ 111 [((Value.iface it ix)), ((Value.iface jt jx))] :: cl b2_ 111 [((Value.iface it ix)), ((Value.iface jt jx))] :: cl tb 188 [(vQ (ra f36_p.a f36_C)), (vI .i64 cnt), (vQ sb)] :: F) := Holds.lf_tr H174_
     have H176_ : Holds w169_ (tr sb b18_ (Tr.lf : Tr K) :: tr sb b18_ (Tr.lf : Tr K) :: ro R :: clf b18_ 185 [((Value.iface it ix)), ((Value.iface jt jx)), ((Value.iface vt vx)), ((Value.iface jt jx)), (vQ sb), (vQ sb), (vQ f36_p.a), (vI .i64 1)] :: cx sb b18_ (upC O (some ((Value.iface jt jx), ke)) ((⟨false, f36_p, f36_o⟩ : Fr K) :: f36_C)) :: clf sb 185 sc :: cl b10_ 111 [((Value.iface it ix)), ((Value.iface jt jx))] :: cl b2_ 111 [((Value.iface it ix)), ((Value.iface jt jx))] :: cl tb 188 [(vQ (ra f36_p.a f36_C)), (vI .i64 cnt), (vQ sb)] :: F) := Holds.lf_tr H175_
     have H177_ := ((Holds.bring (Holds.bring (Holds.bring H176_ 1 rfl) 1 rfl) 3 rfl) :)
     have H178_ := Holds.nd_tr (n := (⟨b18_, (Value.iface it ix), (Value.iface jt jx), (Value.iface vt vx), (Value.iface jt jx), 1, kb, ke, ke⟩ : ND K)) (a := (Tr.lf : Tr K)) (b := (Tr.lf : Tr K)) H177_
     have H179_ : Holds w169_ (tr sb (pa sb ((⟨false, f36_p, f36_o⟩ : Fr K) :: f36_C)) (Tr.nd (⟨b18_, (Value.iface it ix), (Value.iface jt jx), (Value.iface vt vx), (Value.iface jt jx), 1, kb, ke, ke⟩ : ND K) (Tr.lf : Tr K) (Tr.lf : Tr K)) :: ro R :: cx sb b18_ (upC O (some ((Value.iface jt jx), ke)) ((⟨false, f36_p, f36_o⟩ : Fr K) :: f36_C)) :: clf sb 185 sc :: cl b10_ 111 [((Value.iface it ix)), ((Value.iface jt jx))] :: cl b2_ 111 [((Value.iface it ix)), ((Value.iface jt jx))] :: cl tb 188 [(vP (some ⟨(ra b18_ ((⟨false, f36_p, f36_o⟩ : Fr K) :: f36_C)), 0, none⟩)), (vI .i64 cnt), (vQ sb)] :: F) := (H178_)
     have H180_ := H179_; rw [← pa_upC (O := O) sb ((⟨false, f36_p, f36_o⟩ : Fr K) :: f36_C) (some ((Value.iface jt jx), ke)), ← ra_upC O ((⟨false, f36_p, f36_o⟩ : Fr K) :: f36_C) b18_ (some ((Value.iface jt jx), ke))] at H180_
     have H181_ : Holds w169_ (tr sb (pa sb (upC O (some ((Value.iface jt jx), ke)) ((⟨false, f36_p, f36_o⟩ : Fr K) :: f36_C))) (Tr.nd (⟨b18_, (Value.iface it ix), (Value.iface jt jx), (Value.iface vt vx), (Value.iface jt jx), 1, kb, ke, ke⟩ : ND K) (Tr.lf : Tr K) (Tr.lf : Tr K)) :: ro R :: cx sb b18_ (upC O (some ((Value.iface jt jx), ke)) ((⟨false, f36_p, f36_o⟩ : Fr K) :: f36_C)) :: clf sb 185 sc :: cl b10_ 111 [((Value.iface it ix)), ((Value.iface jt jx))] :: cl b2_ 111 [((Value.iface it ix)), ((Value.iface jt jx))] :: cl tb 188 [(vP (some ⟨(ra b18_ (upC O (some ((Value.iface jt jx), ke)) ((⟨false, f36_p, f36_o⟩ : Fr K) :: f36_C))), 0, none⟩)), (vI .i64 cnt), (vQ sb)] :: F) := (H180_)
     have hFx_ : FxI O R (inl ((⟨false, f36_p, f36_o⟩ : Fr K) :: f36_C) ++ (⟨b18_, (Value.iface it ix), (Value.iface jt jx), (Value.iface vt vx), (Value.iface jt jx), 1, kb, ke, ke⟩ : ND K).er :: inr ((⟨false, f36_p, f36_o⟩ : Fr K) :: f36_C)) (upC O (some ((Value.iface jt jx), ke)) ((⟨false, f36_p, f36_o⟩ : Fr K) :: f36_C)) (Tr.nd (⟨b18_, (Value.iface it ix), (Value.iface jt jx), (Value.iface vt vx), (Value.iface jt jx), 1, kb, ke, ke⟩ : ND K) (Tr.lf : Tr K) (Tr.lf : Tr K)) := ins_fx hW1 hCk hb he
     have H182_ := Holds.recl H181_ 6 rfl ((lcons ((by first | rfl | omega | (simp; done) | (simp; omega)) : (vP (some ⟨(ra b18_ (upC O (some ((Value.iface jt jx), ke)) ((⟨false, f36_p, f36_o⟩ : Fr K) :: f36_C))), 0, none⟩)) = (vP (some ⟨(ra (⟨b18_, (Value.iface it ix), (Value.iface jt jx), (Value.iface vt vx), (Value.iface jt jx), 1, kb, ke, ke⟩ : ND K).a (upC O (some ((Value.iface jt jx), ke)) ((⟨false, f36_p, f36_o⟩ : Fr K) :: f36_C))), 0, none⟩))) rfl) : [(vP (some ⟨(ra b18_ (upC O (some ((Value.iface jt jx), ke)) ((⟨false, f36_p, f36_o⟩ : Fr K) :: f36_C))), 0, none⟩)), (vI .i64 cnt), (vQ sb)] = [(vP (some ⟨(ra (⟨b18_, (Value.iface it ix), (Value.iface jt jx), (Value.iface vt vx), (Value.iface jt jx), 1, kb, ke, ke⟩ : ND K).a (upC O (some ((Value.iface jt jx), ke)) ((⟨false, f36_p, f36_o⟩ : Fr K) :: f36_C))), 0, none⟩)), (vI .i64 cnt), (vQ sb)])
     have eH183_ : cx sb b18_ (upC O (some ((Value.iface jt jx), ke)) ((⟨false, f36_p, f36_o⟩ : Fr K) :: f36_C)) = cx sb ((⟨b18_, (Value.iface it ix), (Value.iface jt jx), (Value.iface vt vx), (Value.iface jt jx), 1, kb, ke, ke⟩ : ND K).a) (upC O (some ((Value.iface jt jx), ke)) ((⟨false, f36_p, f36_o⟩ : Fr K) :: f36_C)) := by first | rfl | (congr 1 <;> first | rfl | omega | (simp; done) | (simp; omega))
     have H183_ : Holds w169_ (tr sb (pa sb (upC O (some ((Value.iface jt jx), ke)) ((⟨false, f36_p, f36_o⟩ : Fr K) :: f36_C))) (Tr.nd (⟨b18_, (Value.iface it ix), (Value.iface jt jx), (Value.iface vt vx), (Value.iface jt jx), 1, kb, ke, ke⟩ : ND K) (Tr.lf : Tr K) (Tr.lf : Tr K)) :: ro R :: cx sb ((⟨b18_, (Value.iface it ix), (Value.iface jt jx), (Value.iface vt vx), (Value.iface jt jx), 1, kb, ke, ke⟩ : ND K).a) (upC O (some ((Value.iface jt jx), ke)) ((⟨false, f36_p, f36_o⟩ : Fr K) :: f36_C)) :: clf sb 185 sc :: cl b10_ 111 [((Value.iface it ix)), ((Value.iface jt jx))] :: cl b2_ 111 [((Value.iface it ix)), ((Value.iface jt jx))] :: cl tb 188 [(vP (some ⟨(ra (⟨b18_, (Value.iface it ix), (Value.iface jt jx), (Value.iface vt vx), (Value.iface jt jx), 1, kb, ke, ke⟩ : ND K).a (upC O (some ((Value.iface jt jx), ke)) ((⟨false, f36_p, f36_o⟩ : Fr K) :: f36_C))), 0, none⟩)), (vI .i64 cnt), (vQ sb)] :: F) := cast1 (P := fun c__ => Holds w169_ (tr sb (pa sb (upC O (some ((Value.iface jt jx), ke)) ((⟨false, f36_p, f36_o⟩ : Fr K) :: f36_C))) (Tr.nd (⟨b18_, (Value.iface it ix), (Value.iface jt jx), (Value.iface vt vx), (Value.iface jt jx), 1, kb, ke, ke⟩ : ND K) (Tr.lf : Tr K) (Tr.lf : Tr K)) :: ro R :: c__ :: clf sb 185 sc :: cl b10_ 111 [((Value.iface it ix)), ((Value.iface jt jx))] :: cl b2_ 111 [((Value.iface it ix)), ((Value.iface jt jx))] :: cl tb 188 [(vP (some ⟨(ra (⟨b18_, (Value.iface it ix), (Value.iface jt jx), (Value.iface vt vx), (Value.iface jt jx), 1, kb, ke, ke⟩ : ND K).a (upC O (some ((Value.iface jt jx), ke)) ((⟨false, f36_p, f36_o⟩ : Fr K) :: f36_C))), 0, none⟩)), (vI .i64 cnt), (vQ sb)] :: F)) eH183_ H182_
     have H187_ := ((Holds.bring (Holds.bring (Holds.bring (Holds.bring (Holds.bring H183_ 3 rfl) 3 rfl) 2 rfl) 6 rfl) 4 rfl) :)
     refine S_list (T_call (al := [(vQ tb), (vP (some ⟨(⟨b18_, (Value.iface it ix), (Value.iface jt jx), (Value.iface vt vx), (Value.iface jt jx), 1, kb, ke, ke⟩ : ND K).a, 0, none⟩))]) (pre := [cl tb 188 [(vP (some ⟨(ra (⟨b18_, (Value.iface it ix), (Value.iface jt jx), (Value.iface vt vx), (Value.iface jt jx), 1, kb, ke, ke⟩ : ND K).a (upC O (some ((Value.iface jt jx), ke)) ((⟨false, f36_p, f36_o⟩ : Fr K) :: f36_C))), 0, none⟩)), (vI .i64 cnt), (vQ sb)], tr sb (pa sb (upC O (some ((Value.iface jt jx), ke)) ((⟨false, f36_p, f36_o⟩ : Fr K) :: f36_C))) (Tr.nd (⟨b18_, (Value.iface it ix), (Value.iface jt jx), (Value.iface vt vx), (Value.iface jt jx), 1, kb, ke, ke⟩ : ND K) (Tr.lf : Tr K) (Tr.lf : Tr K)), cx sb ((⟨b18_, (Value.iface it ix), (Value.iface jt jx), (Value.iface vt vx), (Value.iface jt jx), 1, kb, ke, ke⟩ : ND K).a) (upC O (some ((Value.iface jt jx), ke)) ((⟨false, f36_p, f36_o⟩ : Fr K) :: f36_C)), clf sb 185 sc]) rfl (lcons rfl (lcons ((by first | rfl | omega | (simp; done) | (simp; omega)) : (vQ b18_) = (vP (some ⟨(⟨b18_, (Value.iface it ix), (Value.iface jt jx), (Value.iface vt vx), (Value.iface jt jx), 1, kb, ke, ke⟩ : ND K).a, 0, none⟩))) rfl)) cb162 (itFix R K O tb sb cnt sc (⟨b18_, (Value.iface it ix), (Value.iface jt jx), (Value.iface vt vx), (Value.iface jt jx), 1, kb, ke, ke⟩ : ND K) (Tr.lf : Tr K) (Tr.lf : Tr K) (upC O (some ((Value.iface jt jx), ke)) ((⟨false, f36_p, f36_o⟩ : Fr K) :: f36_C)) (inl ((⟨false, f36_p, f36_o⟩ : Fr K) :: f36_C) ++ (⟨b18_, (Value.iface it ix), (Value.iface jt jx), (Value.iface vt vx), (Value.iface jt jx), 1, kb, ke, ke⟩ : ND K).er :: inr ((⟨false, f36_p, f36_o⟩ : Fr K) :: f36_C)) (hFx_)) H187_ ?_)
     rintro v184_ p191_ w188_ ⟨W185_, rfl, rfl, he186_⟩ S190_ H189_
     have S192_ := Same.trans S172_ S190_
     refine wpList_nil (X_then (hK173_ _ _ ?_))
     clear hK173_
     refine C_reg ?_
     refine sv (v := (vQ tb)) (x_move rfl) ?_
     refine sv (v := (vQ tb)) (by kernel_rfl) ?_
     refine sv (v := (vP (some ⟨tb, 1, none⟩))) (by kernel_rfl) ?_
     refine sv (v := (vI .i64 cnt)) (x_load1 rfl Try.underlying3 rfl ((Holds.rd H189_ 1 rfl) 1 (vI .i64 cnt) rfl)) ?_
     refine sv (v := (vI .i64 (IntKind.i64.wrap (cnt + 1)))) (x_bin rfl rfl rfl) ?_
     refine sv (v := (vQ tb)) (by kernel_rfl) ?_
     refine sv (v := (vP (some ⟨tb, 1, none⟩))) (by kernel_rfl) ?_
     refine S_list0 (T_store1 (v := (vI .i64 (IntKind.i64.wrap (cnt + 1)))) rfl rfl z3 rfl H189_ 1 rfl (Nat.le_of_ble_eq_true (by rfl)) ?_)
     intro w193_ S195_ H194_
     have S196_ := Same.trans S192_ S195_
     refine wpList_nil ?_
     refine R_0 rfl ?_
     have H197_ : Holds w193_ (ro R :: cl tb 188 [(vQ (rt sb W185_)), (vI .i64 (IntKind.i64.wrap (cnt + 1))), (vQ sb)] :: tr sb sb W185_ :: clf sb 185 sc :: F) := (Holds.pkF H194_ [0, 0, 0, 0] 2 :)
     exact ⟨_, _, rfl, ⟨W185_, (inl ((⟨false, f36_p, f36_o⟩ : Fr K) :: f36_C)), (inr ((⟨false, f36_p, f36_o⟩ : Fr K) :: f36_C)), (⟨b18_, (Value.iface it ix), (Value.iface jt jx), (Value.iface vt vx), (Value.iface jt jx), 1, kb, ke, ke⟩ : ND K), rfl, rfl, (⟨he186_.1, he186_.2.1, he186_.2.2.2⟩), (he186_.2.2.1), (by rw [ino_plug]; simp [ino]), (⟨rfl, rfl, rfl, rfl, rfl⟩), (by rw [he186_.2.2.1]; exact ins_srt hway (by have := hs; rw [ino_plug] at this; simpa [ino] using this)), ((way_in (C := ((⟨false, f36_p, f36_o⟩ : Fr K) :: f36_C)) (M := []) hway (by have := hs; rw [ino_plug] at this; simpa [ino] using this)).1), ((way_in (C := ((⟨false, f36_p, f36_o⟩ : Fr K) :: f36_C)) (M := []) hway (by have := hs; rw [ino_plug] at this; simpa [ino] using this)).2)⟩, S196_, H197_⟩
  ·skip
   subst hpl
   have H198_ := H34_; rw [show rt sb (plug ((⟨true, f36_p, f36_o⟩ : Fr K) :: f36_C) (Tr.lf : Tr K)) = ra f36_p.a f36_C from rt_plug sb f36_C f36_p (Tr.lf : Tr K) f36_o] at H198_
   have H199_ : Holds w28_ (cx sb sb ((⟨true, f36_p, f36_o⟩ : Fr K) :: f36_C) :: clf b18_ 185 [((Value.iface it ix)), ((Value.iface jt jx)), ((Value.iface vt vx)), ((Value.iface jt jx)), (vQ sb), (vQ sb), (vQ sb), (vI .i64 1)] :: cl b10_ 111 [((Value.iface it ix)), ((Value.iface jt jx))] :: cl b2_ 111 [((Value.iface it ix)), ((Value.iface jt jx))] :: ro R :: cl tb 188 [(vQ (ra f36_p.a f36_C)), (vI .i64 cnt), (vQ sb)] :: tr sb f36_p.a (Tr.lf : Tr K) :: clf sb 185 sc :: F) := (H198_)
   have H200_ := Holds.cx_cons H199_
   obtain ⟨ht_, hcx_⟩ : LocT O (Tr.lf : Tr K) ∧ LocC O none ((⟨true, f36_p, f36_o⟩ : Fr K) :: f36_C) := loc_unplug (C := ((⟨true, f36_p, f36_o⟩ : Fr K) :: f36_C)) (t := (Tr.lf : Tr K)) hW1.2.1
   have hck_ : COk O R ((⟨true, f36_p, f36_o⟩ : Fr K) :: f36_C) := hCk
   have hkp_ := (hck_ _ (List.mem_cons_self ..)).1
   have hw_ := hway.1; unfold bef at hw_; simp only [if_true, if_false, Bool.false_eq_true] at hw_
   refine sv (v := (vQ b18_)) (x_move rfl) ?_
   refine sv (v := (vQ f36_p.a)) (x_move rfl) ?_
   refine sv (v := (vQ b18_)) (by kernel_rfl) ?_
   refine sv (v := (vP (some ⟨b18_, 6, none⟩))) (by kernel_rfl) ?_
   refine S_list0 (T_store1f (v := (vQ f36_p.a)) rfl rfl z182 rfl H200_ 3 rfl (Nat.le_of_ble_eq_true (by rfl)) ?_)
   intro w201_ S203_ H202_
   have S204_ := Same.trans S30_ S203_
   refine wpList_nil (X_then (hK35_ _ _ ?_))
   clear hK35_
   refine C_seq (fun K205_ hK205_ => ?_)
   refine C_seq (fun K206_ hK206_ => C_reg ?_)
   refine sv (v := (vQ f36_p.a)) (x_move rfl) ?_
   refine sv (v := (vQ tb)) (x_move rfl) ?_
   refine sv (v := (vQ tb)) (by kernel_rfl) ?_
   refine sv (v := (vP (some ⟨tb, 2, none⟩))) (by kernel_rfl) ?_
   refine sv (v := (vQ sb)) (x_load1 rfl Try.underlying182 rfl ((Holds.rd H202_ 7 rfl) 2 (vQ sb) rfl)) ?_
   have hpc207_ : f36_p.a ≠ sb := Holds.ne_f H202_ 0 rfl 9 rfl (by decide)
   refine sv (v := (vB false)) (x_cast (x_eqPN rfl rfl Try.underlying182 z185 (by decide) (Holds.blk H202_ 0 rfl) (Holds.blk H202_ 9 rfl)) (congrArg vB (decide_eq_false hpc207_))) ?_
   refine wpList_nil (X_then (hK206_ _ _ ?_))
   clear hK206_
   refine C_condF rfl ?_
   refine C_seq (fun K208_ hK208_ => ?_)
   refine A_start (S := fun w => (Rd f36_p.a [f36_p.b, f36_p.e, f36_p.v, f36_p.mx, (vQ sb), (vQ (rt sb f36_o)), (vQ (pa sb f36_C)), (vI .i64 f36_p.c)] w ∧ Blk w f36_p.a) ∧ RtRd w (rt sb f36_o) (rmx f36_o) ∧ (Rd b18_ [((Value.iface it ix)), ((Value.iface jt jx)), ((Value.iface vt vx)), ((Value.iface jt jx)), (vQ sb), (vQ sb), (vQ f36_p.a), (vI .i64 1)] w ∧ Blk w b18_) ∧ RtRd w (rt sb (Tr.lf : Tr K)) (rmx (Tr.lf : Tr K)) ∧ Sub R (hp w)) (N := 16) foll rfl rfl ?_
   have H209_ := Holds.drew_ H202_
   have hq210_ := And.intro ((And.intro (Holds.rdf H209_ 0 rfl) (Holds.blk H209_ 0 rfl))) (And.intro (Holds.tr_rd H209_ 1 rfl 9 rfl) (And.intro ((And.intro (Holds.rdf H209_ 3 rfl) (Holds.blk H209_ 3 rfl))) (And.intro (Holds.tr_rd H209_ 8 rfl 9 rfl) ((Holds.ro_at H209_ 6 rfl)))))
   refine A_tk 0 (v := (vQ b18_)) rfl (by kernel_rfl) (fun w hS => x_move rfl) hq210_ ?_
   refine A_tk 1 (v := (vQ b18_)) rfl (by kernel_rfl) (fun w hS => by kernel_rfl) hq210_ ?_
   refine A_tk 2 (v := (vQ b18_)) rfl (by kernel_rfl) (fun w hS => by kernel_rfl) hq210_ ?_
   refine A_tk 3 (v := (vQ b18_)) rfl (by kernel_rfl) (fun w hS => by kernel_rfl) hq210_ ?_
   refine A_tk 4 (v := (vQ b18_)) rfl (by kernel_rfl) (fun w hS => by kernel_rfl) hq210_ ?_
   refine A_tk 5 (v := ((Value.iface it ix))) rfl (by kernel_rfl) (fun w hS => x_load1 rfl Try.underlying109 rfl (hS.2.2.1.1 0 ((Value.iface it ix)) rfl)) hq210_ ?_
   refine A_tk 6 (v := (vQ f36_p.a)) rfl (by kernel_rfl) (fun w hS => x_move rfl) hq210_ ?_
   refine A_tk 7 (v := (vQ f36_p.a)) rfl (by kernel_rfl) (fun w hS => by kernel_rfl) hq210_ ?_
   refine A_tk 8 (v := (vQ f36_p.a)) rfl (by kernel_rfl) (fun w hS => by kernel_rfl) hq210_ ?_
   refine A_tk 9 (v := (vQ f36_p.a)) rfl (by kernel_rfl) (fun w hS => by kernel_rfl) hq210_ ?_
   refine A_tk 10 (v := (vQ f36_p.a)) rfl (by kernel_rfl) (fun w hS => by kernel_rfl) hq210_ ?_
   refine A_tk 11 (v := f36_p.b) rfl (by kernel_rfl) (fun w hS => x_load1 rfl Try.underlying109 rfl (hS.1.1 0 f36_p.b rfl)) hq210_ ?_
   refine A_tk 12 (v := ((Value.iface it ix))) rfl (by kernel_rfl) (fun w hS => by kernel_rfl) hq210_ ?_
   refine A_tk 13 (v := ((Value.iface it ix))) rfl (by kernel_rfl) (fun w hS => x_move rfl) hq210_ ?_
   refine A_ready (i := 14) (rs := []) (by kernel_rfl) ?_
   refine AllR.cons ?_ AllR.nil
   refine A_op (ls' := #[true, true, true, true, true, true, true, true, true, true, true, true, true, true, true, false]) rfl (by kernel_rfl) (T_cmp rfl rfl (O.cmp hb (hkp_.b)) H209_ 6 rfl ?_)
   intro w211_ S213_ H212_
   have S214_ := Same.trans (Same.trans S204_ (Same.drew _)) S213_
   refine ⟨⟨(And.intro (Holds.rdf H212_ 0 rfl) (Holds.blk H212_ 0 rfl)), Holds.tr_rd H212_ 1 rfl 9 rfl, (And.intro (Holds.rdf H212_ 3 rfl) (Holds.blk H212_ 3 rfl)), Holds.tr_rd H212_ 8 rfl 9 rfl, (Holds.ro_at H212_ 6 rfl)⟩, ?_⟩
   have hq215_ := And.intro ((And.intro (Holds.rdf H212_ 0 rfl) (Holds.blk H212_ 0 rfl))) (And.intro (Holds.tr_rd H212_ 1 rfl 9 rfl) (And.intro ((And.intro (Holds.rdf H212_ 3 rfl) (Holds.blk H212_ 3 rfl))) (And.intro (Holds.tr_rd H212_ 8 rfl 9 rfl) ((Holds.ro_at H212_ 6 rfl)))))
   refine A_tk 15 (v := (vI .i64 (O.cm kb f36_p.kb))) rfl (by kernel_rfl) (fun w hS => x_assign rfl) hq215_ ?_
   refine A_done (by kernel_rfl) ?_
   refine (X_then (hK208_ _ _ ?_))
   clear hK208_
   refine C_seq (fun K216_ hK216_ => ?_)
   refine C_seq (fun K217_ hK217_ => C_reg ?_)
   refine sv (v := (vI .i64 (O.cm kb f36_p.kb))) (x_move rfl) ?_
   refine sv (v := (vB (decide (O.cm kb f36_p.kb < 0)))) (x_bin rfl rfl rfl) ?_
   refine wpList_nil (X_then (hK217_ _ _ ?_))
   clear hK217_
   refine C_cond (b := decide (O.cm kb f36_p.kb < 0)) rfl (fun c218_t => ?_) (fun c218_f => ?_)
   ·have c218_tp : O.cm kb f36_p.kb < 0 := of_decide_eq_true c218_t
    refine C_reg ?_
    refine sv (v := (vQ f36_p.a)) (x_move rfl) ?_
    refine sv (v := (vQ b18_)) (x_move rfl) ?_
    refine sv (v := (vQ f36_p.a)) (by kernel_rfl) ?_
    refine sv (v := (vP (some ⟨f36_p.a, 4, none⟩))) (by kernel_rfl) ?_
    refine S_list0 (T_store1f (v := (vQ b18_)) rfl rfl z182 rfl H212_ 0 rfl (Nat.le_of_ble_eq_true (by rfl)) ?_)
    intro w219_ S221_ H220_
    have S222_ := Same.trans S214_ S221_
    refine wpList_nil (X_then (hK216_ _ _ ?_))
    clear hK216_
    refine C_reg ?_
    refine sv (v := (vQ f36_p.a)) (x_move rfl) ?_
    refine sv (v := (vQ tb)) (x_move rfl) ?_
    refine sv (v := (vQ tb)) (by kernel_rfl) ?_
    refine sv (v := (vP (some ⟨tb, 2, none⟩))) (by kernel_rfl) ?_
    refine sv (v := (vQ sb)) (x_load1 rfl Try.underlying182 rfl ((Holds.rd H220_ 7 rfl) 2 (vQ sb) rfl)) ?_
    have H223_ := Holds.cons_cx (sb := sb) (f := (⟨true, f36_p, f36_o⟩ : Fr K)) (C := f36_C) (x := b18_) H220_
    have H224_ : Holds w219_ (cx sb (ha sb (some ((⟨b18_, (Value.iface it ix), (Value.iface jt jx), (Value.iface vt vx), (Value.iface jt jx), 1, kb, ke, ke⟩ : ND K), sb, sb, f36_p.a))) ((⟨true, f36_p, f36_o⟩ : Fr K) :: f36_C) :: hol (some ((⟨b18_, (Value.iface it ix), (Value.iface jt jx), (Value.iface vt vx), (Value.iface jt jx), 1, kb, ke, ke⟩ : ND K), sb, sb, f36_p.a)) :: cl b10_ 111 [((Value.iface it ix)), ((Value.iface jt jx))] :: cl b2_ 111 [((Value.iface it ix)), ((Value.iface jt jx))] :: ro R :: cl tb 188 [(vQ (ra f36_p.a f36_C)), (vI .i64 cnt), (vQ sb)] :: tr sb f36_p.a (Tr.lf : Tr K) :: clf sb 185 sc :: F) := (H223_)
    have H226_ := ((Holds.bring (Holds.bring (Holds.bring (Holds.bring H224_ 7 rfl) 1 rfl) 2 rfl) 5 rfl) :)
    refine S_list (T_call (al := [(vP (some ⟨(pa sb ((⟨true, f36_p, f36_o⟩ : Fr K) :: f36_C)), 0, none⟩)), (vQ sb)]) (pre := [hol (some ((⟨b18_, (Value.iface it ix), (Value.iface jt jx), (Value.iface vt vx), (Value.iface jt jx), 1, kb, ke, ke⟩ : ND K), sb, sb, f36_p.a)), cx sb (ha sb (some ((⟨b18_, (Value.iface it ix), (Value.iface jt jx), (Value.iface vt vx), (Value.iface jt jx), 1, kb, ke, ke⟩ : ND K), sb, sb, f36_p.a))) ((⟨true, f36_p, f36_o⟩ : Fr K) :: f36_C), clf sb 185 sc]) rfl (lcons ((by first | rfl | omega | (simp; done) | (simp; omega)) : (vQ f36_p.a) = (vP (some ⟨(pa sb ((⟨true, f36_p, f36_o⟩ : Fr K) :: f36_C)), 0, none⟩))) rfl) cb142 (itUpMax R K O sb sc (some ((⟨b18_, (Value.iface it ix), (Value.iface jt jx), (Value.iface vt vx), (Value.iface jt jx), 1, kb, ke, ke⟩ : ND K), sb, sb, f36_p.a)) ((⟨true, f36_p, f36_o⟩ : Fr K) :: f36_C) (hck_) (fun q hq => by cases hq; exact he)) H226_ ?_)
    rintro v225_ p230_ w227_ ⟨rfl, rfl⟩ S229_ H228_
    have S231_ := Same.trans S222_ S229_
    have H232_ : Holds w227_ (ro R :: clf b18_ 185 [((Value.iface it ix)), ((Value.iface jt jx)), ((Value.iface vt vx)), ((Value.iface jt jx)), (vQ sb), (vQ sb), (vQ f36_p.a), (vI .i64 1)] :: cx sb b18_ (upC O (some ((Value.iface jt jx), ke)) ((⟨true, f36_p, f36_o⟩ : Fr K) :: f36_C)) :: clf sb 185 sc :: cl b10_ 111 [((Value.iface it ix)), ((Value.iface jt jx))] :: cl b2_ 111 [((Value.iface it ix)), ((Value.iface jt jx))] :: cl tb 188 [(vQ (ra f36_p.a f36_C)), (vI .i64 cnt), (vQ sb)] :: tr sb f36_p.a (Tr.lf : Tr K) :: F) := (H228_)
    refine wpList_nil (X_then (hK205_ _ _ ?_))
    clear hK205_
    refine C_seq (fun K233_ hK233_ => C_reg ?_)
    refine sv (v := (vQ b18_)) (x_move rfl) ?_
    refine sv (v := (vQ b18_)) (by kernel_rfl) ?_
    refine sv (v := (vP (some ⟨b18_, 7, none⟩))) (by kernel_rfl) ?_
    refine S_list0 (T_store1f (v := (vI .i64 1)) rfl rfl z183 rfl H232_ 1 rfl (Nat.le_of_ble_eq_true (by rfl)) ?_)
    intro w234_ S236_ H235_
    have S237_ := Same.trans S231_ S236_
    refine wpList_nil (X_then (hK233_ _ _ ?_))
    clear hK233_
    refine C_seq (fun K238_ hK238_ => C_reg ?_)
    refine sv (v := (vQ tb)) (x_move rfl) ?_
    refine sv (v := (vQ b18_)) (x_move rfl) ?_
    have H239_ : Holds w234_ (ro R :: clf b18_ 185 [((Value.iface it ix)), ((Value.iface jt jx)), ((Value.iface vt vx)), ((Value.iface jt jx)), (vQ sb), (vQ sb), (vQ f36_p.a), (vI .i64 1)] :: cx sb b18_ (upC O (some ((Value.iface jt jx), ke)) ((⟨true, f36_p, f36_o⟩ : Fr K) :: f36_C)) :: clf sb 185 sc :: cl b10_ 111 [((Value.iface it ix)), ((Value.iface jt jx))] :: cl b2_ 111 [((Value.iface it ix)), ((Value.iface jt jx))] :: cl tb 188 [(vQ (ra f36_p.a f36_C)), (vI .i64 cnt), (vQ sb)] :: F) := (Holds.pkF H235_ [0, 0, 0, 0, 0, 0, 0] 1 :)
    have H240_ : Holds w234_ (tr sb b18_ (Tr.lf : Tr K) :: ro R :: clf b18_ 185 [((Value.iface it ix)), ((Value.iface jt jx)), ((Value.iface vt vx)), ((Value.iface jt jx)), (vQ sb), (vQ sb), (vQ f36_p.a), (vI .i64 1)] :: cx sb b18_ (upC O (some ((Value.iface jt jx), ke)) ((⟨true, f36_p, f36_o⟩ : Fr K) :: f36_C)) :: clf sb 185 sc :: cl b10_ 111 [((Value.iface it ix)), ((Value.iface jt jx))] :: cl b2_ 111 [((Value.iface it ix)), ((Value.iface jt jx))] :: cl tb 188 [(vQ (ra f36_p.a f36_C)), (vI .i64 cnt), (vQ sb)] :: F) := Holds.lf_tr H239_
    have H241_ : Holds w234_ (tr sb b18_ (Tr.lf : Tr K) :: tr sb b18_ (Tr.lf : Tr K) :: ro R :: clf b18_ 185 [((Value.iface it ix)), ((Value.iface jt jx)), ((Value.iface vt vx)), ((Value.iface jt jx)), (vQ sb), (vQ sb), (vQ f36_p.a), (vI .i64 1)] :: cx sb b18_ (upC O (some ((Value.iface jt jx), ke)) ((⟨true, f36_p, f36_o⟩ : Fr K) :: f36_C)) :: clf sb 185 sc :: cl b10_ 111 [((Value.iface it ix)), ((Value.iface jt jx))] :: cl b2_ 111 [((Value.iface it ix)), ((Value.iface jt jx))] :: cl tb 188 [(vQ (ra f36_p.a f36_C)), (vI .i64 cnt), (vQ sb)] :: F) := Holds.lf_tr H240_
    have H242_ := ((Holds.bring (Holds.bring (Holds.bring H241_ 1 rfl) 1 rfl) 3 rfl) :)
    have H243_ := Holds.nd_tr (n := (⟨b18_, (Value.iface it ix), (Value.iface jt jx), (Value.iface vt vx), (Value.iface jt jx), 1, kb, ke, ke⟩ : ND K)) (a := (Tr.lf : Tr K)) (b := (Tr.lf : Tr K)) H242_
    have H244_ : Holds w234_ (tr sb (pa sb ((⟨true, f36_p, f36_o⟩ : Fr K) :: f36_C)) (Tr.nd (⟨b18_, (Value.iface it ix), (Value.iface jt jx), (Value.iface vt vx), (Value.iface jt jx), 1, kb, ke, ke⟩ : ND K) (Tr.lf : Tr K) (Tr.lf : Tr K)) :: ro R :: cx sb b18_ (upC O (some ((Value.iface jt jx), ke)) ((⟨true, f36_p, f36_o⟩ : Fr K) :: f36_C)) :: clf sb 185 sc :: cl b10_ 111 [((Value.iface it ix)), ((Value.iface jt jx))] :: cl b2_ 111 [((Value.iface it ix)), ((Value.iface jt jx))] :: cl tb 188 [(vP (some ⟨(ra b18_ ((⟨true, f36_p, f36_o⟩ : Fr K) :: f36_C)), 0, none⟩)), (vI .i64 cnt), (vQ sb)] :: F) := (H243_)
    have H245_ := H244_; rw [← pa_upC (O := O) sb ((⟨true, f36_p, f36_o⟩ : Fr K) :: f36_C) (some ((Value.iface jt jx), ke)), ← ra_upC O ((⟨true, f36_p, f36_o⟩ : Fr K) :: f36_C) b18_ (some ((Value.iface jt jx), ke))] at H245_
    have H246_ : Holds w234_ (tr sb (pa sb (upC O (some ((Value.iface jt jx), ke)) ((⟨true, f36_p, f36_o⟩ : Fr K) :: f36_C))) (Tr.nd (⟨b18_, (Value.iface it ix), (Value.iface jt jx), (Value.iface vt vx), (Value.iface jt jx), 1, kb, ke, ke⟩ : ND K) (Tr.lf : Tr K) (Tr.lf : Tr K)) :: ro R :: cx sb b18_ (upC O (some ((Value.iface jt jx), ke)) ((⟨true, f36_p, f36_o⟩ : Fr K) :: f36_C)) :: clf sb 185 sc :: cl b10_ 111 [((Value.iface it ix)), ((Value.iface jt jx))] :: cl b2_ 111 [((Value.iface it ix)), ((Value.iface jt jx))] :: cl tb 188 [(vP (some ⟨(ra b18_ (upC O (some ((Value.iface jt jx), ke)) ((⟨true, f36_p, f36_o⟩ : Fr K) :: f36_C))), 0, none⟩)), (vI .i64 cnt), (vQ sb)] :: F) := (H245_)
    have hFx_ : FxI O R (inl ((⟨true, f36_p, f36_o⟩ : Fr K) :: f36_C) ++ (⟨b18_, (Value.iface it ix), (Value.iface jt jx), (Value.iface vt vx), (Value.iface jt jx), 1, kb, ke, ke⟩ : ND K).er :: inr ((⟨true, f36_p, f36_o⟩ : Fr K) :: f36_C)) (upC O (some ((Value.iface jt jx), ke)) ((⟨true, f36_p, f36_o⟩ : Fr K) :: f36_C)) (Tr.nd (⟨b18_, (Value.iface it ix), (Value.iface jt jx), (Value.iface vt vx), (Value.iface jt jx), 1, kb, ke, ke⟩ : ND K) (Tr.lf : Tr K) (Tr.lf : Tr K)) := ins_fx hW1 hCk hb he
    have H247_ := Holds.recl H246_ 6 rfl ((lcons ((by first | rfl | omega | (simp; done) | (simp; omega)) : (vP (some ⟨(ra b18_ (upC O (some ((Value.iface jt jx), ke)) ((⟨true, f36_p, f36_o⟩ : Fr K) :: f36_C))), 0, none⟩)) = (vP (some ⟨(ra (⟨b18_, (Value.iface it ix), (Value.iface jt jx), (Value.iface vt vx), (Value.iface jt jx), 1, kb, ke, ke⟩ : ND K).a (upC O (some ((Value.iface jt jx), ke)) ((⟨true, f36_p, f36_o⟩ : Fr K) :: f36_C))), 0, none⟩))) rfl) : [(vP (some ⟨(ra b18_ (upC O (some ((Value.iface jt jx), ke)) ((⟨true, f36_p, f36_o⟩ : Fr K) :: f36_C))), 0, none⟩)), (vI .i64 cnt), (vQ sb)] = [(vP (some ⟨(ra (⟨b18_, (Value.iface it ix), (Value.iface jt jx), (Value.iface vt vx), (Value.iface jt jx), 1, kb, ke, ke⟩ : ND K).a (upC O (some ((Value.iface jt jx), ke)) ((⟨true, f36_p, f36_o⟩ : Fr K) :: f36_C))), 0, none⟩)), (vI .i64 cnt), (vQ sb)])
    have eH248_ : cx sb b18_ (upC O (some ((Value.iface jt jx), ke)) ((⟨true, f36_p, f36_o⟩ : Fr K) :: f36_C)) = cx sb ((⟨b18_, (Value.iface it ix), (Value.iface jt jx), (Value.iface vt vx), (Value.iface jt jx), 1, kb, ke, ke⟩ : ND K).a) (upC O (some ((Value.iface jt jx), ke)) ((⟨true, f36_p, f36_o⟩ : Fr K) :: f36_C)) := by first | rfl | (congr 1 <;> first | rfl | omega | (simp; done) | (simp; omega))
    have H248_ : Holds w234_ (tr sb (pa sb (upC O (some ((Value.iface jt jx), ke)) ((⟨true, f36_p, f36_o⟩ : Fr K) :: f36_C))) (Tr.nd (⟨b18_, (Value.iface it ix), (Value.iface jt jx), (Value.iface vt vx), (Value.iface jt jx), 1, kb, ke, ke⟩ : ND K) (Tr.lf : Tr K) (Tr.lf : Tr K)) :: ro R :: cx sb ((⟨b18_, (Value.iface it ix), (Value.iface jt jx), (Value.iface vt vx), (Value.iface jt jx), 1, kb, ke, ke⟩ : ND K).a) (upC O (some ((Value.iface jt jx), ke)) ((⟨true, f36_p, f36_o⟩ : Fr K) :: f36_C)) :: clf sb 185 sc :: cl b10_ 111 [((Value.iface it ix)), ((Value.iface jt jx))] :: cl b2_ 111 [((Value.iface it ix)), ((Value.iface jt jx))] :: cl tb 188 [(vP (some ⟨(ra (⟨b18_, (Value.iface it ix), (Value.iface jt jx), (Value.iface vt vx), (Value.iface jt jx), 1, kb, ke, ke⟩ : ND K).a (upC O (some ((Value.iface jt jx), ke)) ((⟨true, f36_p, f36_o⟩ : Fr K) :: f36_C))), 0, none⟩)), (vI .i64 cnt), (vQ sb)] :: F) := cast1 (P := fun c__ => Holds w234_ (tr sb (pa sb (upC O (some ((Value.iface jt jx), ke)) ((⟨true, f36_p, f36_o⟩ : Fr K) :: f36_C))) (Tr.nd (⟨b18_, (Value.iface it ix), (Value.iface jt jx), (Value.iface vt vx), (Value.iface jt jx), 1, kb, ke, ke⟩ : ND K) (Tr.lf : Tr K) (Tr.lf : Tr K)) :: ro R :: c__ :: clf sb 185 sc :: cl b10_ 111 [((Value.iface it ix)), ((Value.iface jt jx))] :: cl b2_ 111 [((Value.iface it ix)), ((Value.iface jt jx))] :: cl tb 188 [(vP (some ⟨(ra (⟨b18_, (Value.iface it ix), (Value.iface jt jx), (Value.iface vt vx), (Value.iface jt jx), 1, kb, ke, ke⟩ : ND K).a (upC O (some ((Value.iface jt jx), ke)) ((⟨true, f36_p, f36_o⟩ : Fr K) :: f36_C))), 0, none⟩)), (vI .i64 cnt), (vQ sb)] :: F)) eH248_ H247_
    have H252_ := ((Holds.bring (Holds.bring (Holds.bring (Holds.bring (Holds.bring H248_ 3 rfl) 3 rfl) 2 rfl) 6 rfl) 4 rfl) :)
    refine S_list (T_call (al := [(vQ tb), (vP (some ⟨(⟨b18_, (Value.iface it ix), (Value.iface jt jx), (Value.iface vt vx), (Value.iface jt jx), 1, kb, ke, ke⟩ : ND K).a, 0, none⟩))]) (pre := [cl tb 188 [(vP (some ⟨(ra (⟨b18_, (Value.iface it ix), (Value.iface jt jx), (Value.iface vt vx), (Value.iface jt jx), 1, kb, ke, ke⟩ : ND K).a (upC O (some ((Value.iface jt jx), ke)) ((⟨true, f36_p, f36_o⟩ : Fr K) :: f36_C))), 0, none⟩)), (vI .i64 cnt), (vQ sb)], tr sb (pa sb (upC O (some ((Value.iface jt jx), ke)) ((⟨true, f36_p, f36_o⟩ : Fr K) :: f36_C))) (Tr.nd (⟨b18_, (Value.iface it ix), (Value.iface jt jx), (Value.iface vt vx), (Value.iface jt jx), 1, kb, ke, ke⟩ : ND K) (Tr.lf : Tr K) (Tr.lf : Tr K)), cx sb ((⟨b18_, (Value.iface it ix), (Value.iface jt jx), (Value.iface vt vx), (Value.iface jt jx), 1, kb, ke, ke⟩ : ND K).a) (upC O (some ((Value.iface jt jx), ke)) ((⟨true, f36_p, f36_o⟩ : Fr K) :: f36_C)), clf sb 185 sc]) rfl (lcons rfl (lcons ((by first | rfl | omega | (simp; done) | (simp; omega)) : (vQ b18_) = (vP (some ⟨(⟨b18_, (Value.iface it ix), (Value.iface jt jx), (Value.iface vt vx), (Value.iface jt jx), 1, kb, ke, ke⟩ : ND K).a, 0, none⟩))) rfl)) cb162 (itFix R K O tb sb cnt sc (⟨b18_, (Value.iface it ix), (Value.iface jt jx), (Value.iface vt vx), (Value.iface jt jx), 1, kb, ke, ke⟩ : ND K) (Tr.lf : Tr K) (Tr.lf : Tr K) (upC O (some ((Value.iface jt jx), ke)) ((⟨true, f36_p, f36_o⟩ : Fr K) :: f36_C)) (inl ((⟨true, f36_p, f36_o⟩ : Fr K) :: f36_C) ++ (⟨b18_, (Value.iface it ix), (Value.iface jt jx), (Value.iface vt vx), (Value.iface jt jx), 1, kb, ke, ke⟩ : ND K).er :: inr ((⟨true, f36_p, f36_o⟩ : Fr K) :: f36_C)) (hFx_)) H252_ ?_)
    rintro v249_ p256_ w253_ ⟨W250_, rfl, rfl, he251_⟩ S255_ H254_
    have S257_ := Same.trans S237_ S255_
    refine wpList_nil (X_then (hK238_ _ _ ?_))
    clear hK238_
    refine C_reg ?_
    refine sv (v := (vQ tb)) (x_move rfl) ?_
    refine sv (v := (vQ tb)) (by kernel_rfl) ?_
    refine sv (v := (vP (some ⟨tb, 1, none⟩))) (by kernel_rfl) ?_
    refine sv (v := (vI .i64 cnt)) (x_load1 rfl Try.underlying3 rfl ((Holds.rd H254_ 1 rfl) 1 (vI .i64 cnt) rfl)) ?_
    refine sv (v := (vI .i64 (IntKind.i64.wrap (cnt + 1)))) (x_bin rfl rfl rfl) ?_
    refine sv (v := (vQ tb)) (by kernel_rfl) ?_
    refine sv (v := (vP (some ⟨tb, 1, none⟩))) (by kernel_rfl) ?_
    refine S_list0 (T_store1 (v := (vI .i64 (IntKind.i64.wrap (cnt + 1)))) rfl rfl z3 rfl H254_ 1 rfl (Nat.le_of_ble_eq_true (by rfl)) ?_)
    intro w258_ S260_ H259_
    have S261_ := Same.trans S257_ S260_
    refine wpList_nil ?_
    refine R_0 rfl ?_
    have H262_ : Holds w258_ (ro R :: cl tb 188 [(vQ (rt sb W250_)), (vI .i64 (IntKind.i64.wrap (cnt + 1))), (vQ sb)] :: tr sb sb W250_ :: clf sb 185 sc :: F) := (Holds.pkF H259_ [0, 0, 0, 0] 2 :)
    exact ⟨_, _, rfl, ⟨W250_, (inl ((⟨true, f36_p, f36_o⟩ : Fr K) :: f36_C)), (inr ((⟨true, f36_p, f36_o⟩ : Fr K) :: f36_C)), (⟨b18_, (Value.iface it ix), (Value.iface jt jx), (Value.iface vt vx), (Value.iface jt jx), 1, kb, ke, ke⟩ : ND K), rfl, rfl, (⟨he251_.1, he251_.2.1, he251_.2.2.2⟩), (he251_.2.2.1), (by rw [ino_plug]; simp [ino]), (⟨rfl, rfl, rfl, rfl, rfl⟩), (by rw [he251_.2.2.1]; exact ins_srt hway (by have := hs; rw [ino_plug] at this; simpa [ino] using this)), ((way_in (C := ((⟨true, f36_p, f36_o⟩ : Fr K) :: f36_C)) (M := []) hway (by have := hs; rw [ino_plug] at this; simpa [ino] using this)).1), ((way_in (C := ((⟨true, f36_p, f36_o⟩ : Fr K) :: f36_C)) (M := []) hway (by have := hs; rw [ino_plug] at this; simpa [ino] using this)).2)⟩, S261_, H262_⟩
   ·have c218_fp : ¬ (O.cm kb f36_p.kb < 0) := of_decide_eq_false c218_f
    refine C_seq (fun K263_ hK263_ => C_reg ?_)
    refine sv (v := (vI .i64 (O.cm kb f36_p.kb))) (x_move rfl) ?_
    refine sv (v := (vB (decide (O.cm kb f36_p.kb = 0)))) (x_bin rfl rfl rfl) ?_
    refine wpList_nil (X_then (hK263_ _ _ ?_))
    clear hK263_
    refine C_cond (b := decide (O.cm kb f36_p.kb = 0)) rfl (fun c264_t => ?_) (fun c264_f => ?_)
    ·have c264_tp : O.cm kb f36_p.kb = 0 := of_decide_eq_true c264_t
     refine C_seq (fun K265_ hK265_ => ?_)
     refine A_start (S := fun w => (Rd f36_p.a [f36_p.b, f36_p.e, f36_p.v, f36_p.mx, (vQ sb), (vQ (rt sb f36_o)), (vQ (pa sb f36_C)), (vI .i64 f36_p.c)] w ∧ Blk w f36_p.a) ∧ RtRd w (rt sb f36_o) (rmx f36_o) ∧ (Rd b18_ [((Value.iface it ix)), ((Value.iface jt jx)), ((Value.iface vt vx)), ((Value.iface jt jx)), (vQ sb), (vQ sb), (vQ f36_p.a), (vI .i64 1)] w ∧ Blk w b18_) ∧ RtRd w (rt sb (Tr.lf : Tr K)) (rmx (Tr.lf : Tr K)) ∧ Sub R (hp w)) (N := 16) foll rfl rfl ?_
     have H266_ := Holds.drew_ H212_
     have hq267_ := And.intro ((And.intro (Holds.rdf H266_ 0 rfl) (Holds.blk H266_ 0 rfl))) (And.intro (Holds.tr_rd H266_ 1 rfl 9 rfl) (And.intro ((And.intro (Holds.rdf H266_ 3 rfl) (Holds.blk H266_ 3 rfl))) (And.intro (Holds.tr_rd H266_ 8 rfl 9 rfl) ((Holds.ro_at H266_ 6 rfl)))))
     refine A_tk 0 (v := (vQ b18_)) rfl (by kernel_rfl) (fun w hS => x_move rfl) hq267_ ?_
     refine A_tk 1 (v := (vQ b18_)) rfl (by kernel_rfl) (fun w hS => by kernel_rfl) hq267_ ?_
     refine A_tk 2 (v := (vQ b18_)) rfl (by kernel_rfl) (fun w hS => by kernel_rfl) hq267_ ?_
     refine A_tk 3 (v := (vQ b18_)) rfl (by kernel_rfl) (fun w hS => by kernel_rfl) hq267_ ?_
     refine A_tk 4 (v := (vP (some ⟨b18_, 1, none⟩))) rfl (by kernel_rfl) (fun w hS => by kernel_rfl) hq267_ ?_
     refine A_tk 5 (v := ((Value.iface jt jx))) rfl (by kernel_rfl) (fun w hS => x_load1 rfl Try.underlying109 rfl (hS.2.2.1.1 1 ((Value.iface jt jx)) rfl)) hq267_ ?_
     refine A_tk 6 (v := (vQ f36_p.a)) rfl (by kernel_rfl) (fun w hS => x_move rfl) hq267_ ?_
     refine A_tk 7 (v := (vQ f36_p.a)) rfl (by kernel_rfl) (fun w hS => by kernel_rfl) hq267_ ?_
     refine A_tk 8 (v := (vQ f36_p.a)) rfl (by kernel_rfl) (fun w hS => by kernel_rfl) hq267_ ?_
     refine A_tk 9 (v := (vQ f36_p.a)) rfl (by kernel_rfl) (fun w hS => by kernel_rfl) hq267_ ?_
     refine A_tk 10 (v := (vP (some ⟨f36_p.a, 1, none⟩))) rfl (by kernel_rfl) (fun w hS => by kernel_rfl) hq267_ ?_
     refine A_tk 11 (v := f36_p.e) rfl (by kernel_rfl) (fun w hS => x_load1 rfl Try.underlying109 rfl (hS.1.1 1 f36_p.e rfl)) hq267_ ?_
     refine A_tk 12 (v := ((Value.iface jt jx))) rfl (by kernel_rfl) (fun w hS => by kernel_rfl) hq267_ ?_
     refine A_tk 13 (v := ((Value.iface jt jx))) rfl (by kernel_rfl) (fun w hS => x_move rfl) hq267_ ?_
     refine A_ready (i := 14) (rs := []) (by kernel_rfl) ?_
     refine AllR.cons ?_ AllR.nil
     refine A_op (ls' := #[true, true, true, true, true, true, true, true, true, true, true, true, true, true, true, false]) rfl (by kernel_rfl) (T_cmp rfl rfl (O.cmp he (hkp_.e)) H266_ 6 rfl ?_)
     intro w268_ S270_ H269_
     have S271_ := Same.trans (Same.trans S214_ (Same.drew _)) S270_
     refine ⟨⟨(And.intro (Holds.rdf H269_ 0 rfl) (Holds.blk H269_ 0 rfl)), Holds.tr_rd H269_ 1 rfl 9 rfl, (And.intro (Holds.rdf H269_ 3 rfl) (Holds.blk H269_ 3 rfl)), Holds.tr_rd H269_ 8 rfl 9 rfl, (Holds.ro_at H269_ 6 rfl)⟩, ?_⟩
     have hq272_ := And.intro ((And.intro (Holds.rdf H269_ 0 rfl) (Holds.blk H269_ 0 rfl))) (And.intro (Holds.tr_rd H269_ 1 rfl 9 rfl) (And.intro ((And.intro (Holds.rdf H269_ 3 rfl) (Holds.blk H269_ 3 rfl))) (And.intro (Holds.tr_rd H269_ 8 rfl 9 rfl) ((Holds.ro_at H269_ 6 rfl)))))
     refine A_tk 15 (v := (vB (decide (O.cm ke f36_p.ke < 0)))) rfl (by kernel_rfl) (fun w hS => x_bin rfl rfl rfl) hq272_ ?_
     refine A_done (by kernel_rfl) ?_
     refine (X_then (hK265_ _ _ ?_))
     clear hK265_
     refine C_cond (b := decide (O.cm ke f36_p.ke < 0)) rfl (fun c273_t => ?_) (fun c273_f => ?_)
     ·have c273_tp : O.cm ke f36_p.ke < 0 := of_decide_eq_true c273_t
      refine C_reg ?_
      refine sv (v := (vQ f36_p.a)) (x_move rfl) ?_
      refine sv (v := (vQ b18_)) (x_move rfl) ?_
      refine sv (v := (vQ f36_p.a)) (by kernel_rfl) ?_
      refine sv (v := (vP (some ⟨f36_p.a, 4, none⟩))) (by kernel_rfl) ?_
      refine S_list0 (T_store1f (v := (vQ b18_)) rfl rfl z182 rfl H269_ 0 rfl (Nat.le_of_ble_eq_true (by rfl)) ?_)
      intro w274_ S276_ H275_
      have S277_ := Same.trans S271_ S276_
      refine wpList_nil (X_then (hK216_ _ _ ?_))
      clear hK216_
      refine C_reg ?_
      refine sv (v := (vQ f36_p.a)) (x_move rfl) ?_
      refine sv (v := (vQ tb)) (x_move rfl) ?_
      refine sv (v := (vQ tb)) (by kernel_rfl) ?_
      refine sv (v := (vP (some ⟨tb, 2, none⟩))) (by kernel_rfl) ?_
      refine sv (v := (vQ sb)) (x_load1 rfl Try.underlying182 rfl ((Holds.rd H275_ 7 rfl) 2 (vQ sb) rfl)) ?_
      have H278_ := Holds.cons_cx (sb := sb) (f := (⟨true, f36_p, f36_o⟩ : Fr K)) (C := f36_C) (x := b18_) H275_
      have H279_ : Holds w274_ (cx sb (ha sb (some ((⟨b18_, (Value.iface it ix), (Value.iface jt jx), (Value.iface vt vx), (Value.iface jt jx), 1, kb, ke, ke⟩ : ND K), sb, sb, f36_p.a))) ((⟨true, f36_p, f36_o⟩ : Fr K) :: f36_C) :: hol (some ((⟨b18_, (Value.iface it ix), (Value.iface jt jx), (Value.iface vt vx), (Value.iface jt jx), 1, kb, ke, ke⟩ : ND K), sb, sb, f36_p.a)) :: cl b10_ 111 [((Value.iface it ix)), ((Value.iface jt jx))] :: cl b2_ 111 [((Value.iface it ix)), ((Value.iface jt jx))] :: ro R :: cl tb 188 [(vQ (ra f36_p.a f36_C)), (vI .i64 cnt), (vQ sb)] :: tr sb f36_p.a (Tr.lf : Tr K) :: clf sb 185 sc :: F) := (H278_)
      have H281_ := ((Holds.bring (Holds.bring (Holds.bring (Holds.bring H279_ 7 rfl) 1 rfl) 2 rfl) 5 rfl) :)
      refine S_list (T_call (al := [(vP (some ⟨(pa sb ((⟨true, f36_p, f36_o⟩ : Fr K) :: f36_C)), 0, none⟩)), (vQ sb)]) (pre := [hol (some ((⟨b18_, (Value.iface it ix), (Value.iface jt jx), (Value.iface vt vx), (Value.iface jt jx), 1, kb, ke, ke⟩ : ND K), sb, sb, f36_p.a)), cx sb (ha sb (some ((⟨b18_, (Value.iface it ix), (Value.iface jt jx), (Value.iface vt vx), (Value.iface jt jx), 1, kb, ke, ke⟩ : ND K), sb, sb, f36_p.a))) ((⟨true, f36_p, f36_o⟩ : Fr K) :: f36_C), clf sb 185 sc]) rfl (lcons ((by first | rfl | omega | (simp; done) | (simp; omega)) : (vQ f36_p.a) = (vP (some ⟨(pa sb ((⟨true, f36_p, f36_o⟩ : Fr K) :: f36_C)), 0, none⟩))) rfl) cb142 (itUpMax R K O sb sc (some ((⟨b18_, (Value.iface it ix), (Value.iface jt jx), (Value.iface vt vx), (Value.iface jt jx), 1, kb, ke, ke⟩ : ND K), sb, sb, f36_p.a)) ((⟨true, f36_p, f36_o⟩ : Fr K) :: f36_C) (hck_) (fun q hq => by cases hq; exact he)) H281_ ?_)
      rintro v280_ p285_ w282_ ⟨rfl, rfl⟩ S284_ H283_
      have S286_ := Same.trans S277_ S284_
      have H287_ : Holds w282_ (ro R :: clf b18_ 185 [((Value.iface it ix)), ((Value.iface jt jx)), ((Value.iface vt vx)), ((Value.iface jt jx)), (vQ sb), (vQ sb), (vQ f36_p.a), (vI .i64 1)] :: cx sb b18_ (upC O (some ((Value.iface jt jx), ke)) ((⟨true, f36_p, f36_o⟩ : Fr K) :: f36_C)) :: clf sb 185 sc :: cl b10_ 111 [((Value.iface it ix)), ((Value.iface jt jx))] :: cl b2_ 111 [((Value.iface it ix)), ((Value.iface jt jx))] :: cl tb 188 [(vQ (ra f36_p.a f36_C)), (vI .i64 cnt), (vQ sb)] :: tr sb f36_p.a (Tr.lf : Tr K) :: F) := (H283_)
      refine wpList_nil (X_then (hK205_ _ _ ?_))
      clear hK205_
      refine C_seq (fun K288_ hK288_ => C_reg ?_)
      refine sv (v := (vQ b18_)) (x_move rfl) ?_
      refine sv (v := (vQ b18_)) (by kernel_rfl) ?_
      refine sv (v := (vP (some ⟨b18_, 7, none⟩))) (by kernel_rfl) ?_
      refine S_list0 (T_store1f (v := (vI .i64 1)) rfl rfl z183 rfl H287_ 1 rfl (Nat.le_of_ble_eq_true (by rfl)) ?_)
      intro w289_ S291_ H290_
      have S292_ := Same.trans S286_ S291_
      refine wpList_nil (X_then (hK288_ _ _ ?_))
      clear hK288_
      refine C_seq (fun K293_ hK293_ => C_reg ?_)
      refine sv (v := (vQ tb)) (x_move rfl) ?_
      refine sv (v := (vQ b18_)) (x_move rfl) ?_
      have H294_ : Holds w289_ (ro R :: clf b18_ 185 [((Value.iface it ix)), ((Value.iface jt jx)), ((Value.iface vt vx)), ((Value.iface jt jx)), (vQ sb), (vQ sb), (vQ f36_p.a), (vI .i64 1)] :: cx sb b18_ (upC O (some ((Value.iface jt jx), ke)) ((⟨true, f36_p, f36_o⟩ : Fr K) :: f36_C)) :: clf sb 185 sc :: cl b10_ 111 [((Value.iface it ix)), ((Value.iface jt jx))] :: cl b2_ 111 [((Value.iface it ix)), ((Value.iface jt jx))] :: cl tb 188 [(vQ (ra f36_p.a f36_C)), (vI .i64 cnt), (vQ sb)] :: F) := (Holds.pkF H290_ [0, 0, 0, 0, 0, 0, 0] 1 :)
      have H295_ : Holds w289_ (tr sb b18_ (Tr.lf : Tr K) :: ro R :: clf b18_ 185 [((Value.iface it ix)), ((Value.iface jt jx)), ((Value.iface vt vx)), ((Value.iface jt jx)), (vQ sb), (vQ sb), (vQ f36_p.a), (vI .i64 1)] :: cx sb b18_ (upC O (some ((Value.iface jt jx), ke)) ((⟨true, f36_p, f36_o⟩ : Fr K) :: f36_C)) :: clf sb 185 sc :: cl b10_ 111 [((Value.iface it ix)), ((Value.iface jt jx))] :: cl b2_ 111 [((Value.iface it ix)), ((Value.iface jt jx))] :: cl tb 188 [(vQ (ra f36_p.a f36_C)), (vI .i64 cnt), (vQ sb)] :: F) := Holds.lf_tr H294_
      have H296_ : Holds w289_ (tr sb b18_ (Tr.lf : Tr K) :: tr sb b18_ (Tr.lf : Tr K) :: ro R :: clf b18_ 185 [((Value.iface it ix)), ((Value.iface jt jx)), ((Value.iface vt vx)), ((Value.iface jt jx)), (vQ sb), (vQ sb), (vQ f36_p.a), (vI .i64 1)] :: cx sb b18_ (upC O (some ((Value.iface jt jx), ke)) ((⟨true, f36_p, f36_o⟩ : Fr K) :: f36_C)) :: clf sb 185 sc :: cl b10_ 111 [((Value.iface it ix)), ((Value.iface jt jx))] :: cl b2_ 111 [((Value.iface it ix)), ((Value.iface jt jx))] :: cl tb 188 [(vQ (ra f36_p.a f36_C)), (vI .i64 cnt), (vQ sb)] :: F) := Holds.lf_tr H295_
      have H297_ := ((Holds.bring (Holds.bring (Holds.bring H296_ 1 rfl) 1 rfl) 3 rfl) :)
      have H298_ := Holds.nd_tr (n := (⟨b18_, (Value.iface it ix), (Value.iface jt jx), (Value.iface vt vx), (Value.iface jt jx), 1, kb, ke, ke⟩ : ND K)) (a := (Tr.lf : Tr K)) (b := (Tr.lf : Tr K)) H297_
      have H299_ : Holds w289_ (tr sb (pa sb ((⟨true, f36_p, f36_o⟩ : Fr K) :: f36_C)) (Tr.nd (⟨b18_, (Value.iface it ix), (Value.iface jt jx), (Value.iface vt vx), (Value.iface jt jx), 1, kb, ke, ke⟩ : ND K) (Tr.lf : Tr K) (Tr.lf : Tr K)) :: ro R :: cx sb b18_ (upC O (some ((Value.iface jt jx), ke)) ((⟨true, f36_p, f36_o⟩ : Fr K) :: f36_C)) :: clf sb 185 sc :: cl b10_ 111 [((Value.iface it ix)), ((Value.iface jt jx))] :: cl b2_ 111 [((Value.iface it ix)), ((Value.iface jt jx))] :: cl tb 188 [(vP (some ⟨(ra b18_ ((⟨true, f36_p, f36_o⟩ : Fr K) :: f36_C)), 0, none⟩)), (vI .i64 cnt), (vQ sb)] :: F) := (H298_)
      have H300_ := H299_; rw [← pa_upC (O := O) sb ((⟨true, f36_p, f36_o⟩ : Fr K) :: f36_C) (some ((Value.iface jt jx), ke)), ← ra_upC O ((⟨true, f36_p, f36_o⟩ : Fr K) :: f36_C) b18_ (some ((Value.iface jt jx), ke))] at H300_
      have H301_ : Holds w289_ (tr sb (pa sb (upC O (some ((Value.iface jt jx), ke)) ((⟨true, f36_p, f36_o⟩ : Fr K) :: f36_C))) (Tr.nd (⟨b18_, (Value.iface it ix), (Value.iface jt jx), (Value.iface vt vx), (Value.iface jt jx), 1, kb, ke, ke⟩ : ND K) (Tr.lf : Tr K) (Tr.lf : Tr K)) :: ro R :: cx sb b18_ (upC O (some ((Value.iface jt jx), ke)) ((⟨true, f36_p, f36_o⟩ : Fr K) :: f36_C)) :: clf sb 185 sc :: cl b10_ 111 [((Value.iface it ix)), ((Value.iface jt jx))] :: cl b2_ 111 [((Value.iface it ix)), ((Value.iface jt jx))] :: cl tb 188 [(vP (some ⟨(ra b18_ (upC O (some ((Value.iface jt jx), ke)) ((⟨true, f36_p, f36_o⟩ : Fr K) :: f36_C))), 0, none⟩)), (vI .i64 cnt), (vQ sb)] :: F) := (H300_)
      have hFx_ : FxI O R (inl ((⟨true, f36_p, f36_o⟩ : Fr K) :: f36_C) ++ (⟨b18_, (Value.iface it ix), (Value.iface jt jx), (Value.iface vt vx), (Value.iface jt jx), 1, kb, ke, ke⟩ : ND K).er :: inr ((⟨true, f36_p, f36_o⟩ : Fr K) :: f36_C)) (upC O (some ((Value.iface jt jx), ke)) ((⟨true, f36_p, f36_o⟩ : Fr K) :: f36_C)) (Tr.nd (⟨b18_, (Value.iface it ix), (Value.iface jt jx), (Value.iface vt vx), (Value.iface jt jx), 1, kb, ke, ke⟩ : ND K) (Tr.lf : Tr K) (Tr.lf : Tr K)) := ins_fx hW1 hCk hb he
      have H302_ := Holds.recl H301_ 6 rfl ((lcons ((by first | rfl | omega | (simp; done) | (simp; omega)) : (vP (some ⟨(ra b18_ (upC O (some ((Value.iface jt jx), ke)) ((⟨true, f36_p, f36_o⟩ : Fr K) :: f36_C))), 0, none⟩)) = (vP (some ⟨(ra (⟨b18_, (Value.iface it ix), (Value.iface jt jx), (Value.iface vt vx), (Value.iface jt jx), 1, kb, ke, ke⟩ : ND K).a (upC O (some ((Value.iface jt jx), ke)) ((⟨true, f36_p, f36_o⟩ : Fr K) :: f36_C))), 0, none⟩))) rfl) : [(vP (some ⟨(ra b18_ (upC O (some ((Value.iface jt jx), ke)) ((⟨true, f36_p, f36_o⟩ : Fr K) :: f36_C))), 0, none⟩)), (vI .i64 cnt), (vQ sb)] = [(vP (some ⟨(ra (⟨b18_, (Value.iface it ix), (Value.iface jt jx), (Value.iface vt vx), (Value.iface jt jx), 1, kb, ke, ke⟩ : ND K).a (upC O (some ((Value.iface jt jx), ke)) ((⟨true, f36_p, f36_o⟩ : Fr K) :: f36_C))), 0, none⟩)), (vI .i64 cnt), (vQ sb)])
      have eH303_ : cx sb b18_ (upC O (some ((Value.iface jt jx), ke)) ((⟨true, f36_p, f36_o⟩ : Fr K) :: f36_C)) = cx sb ((⟨b18_, (Value.iface it ix), (Value.iface jt jx), (Value.iface vt vx), (Value.iface jt jx), 1, kb, ke, ke⟩ : ND K).a) (upC O (some ((Value.iface jt jx), ke)) ((⟨true, f36_p, f36_o⟩ : Fr K) :: f36_C)) := by first | rfl | (congr 1 <;> first | rfl | omega | (simp; done) | (simp; omega))
      have H303_ : Holds w289_ (tr sb (pa sb (upC O (some ((Value.iface jt jx), ke)) ((⟨true, f36_p, f36_o⟩ : Fr K) :: f36_C))) (Tr.nd (⟨b18_, (Value.iface it ix), (Value.iface jt jx), (Value.iface vt vx), (Value.iface jt jx), 1, kb, ke, ke⟩ : ND K) (Tr.lf : Tr K) (Tr.lf : Tr K)) :: ro R :: cx sb ((⟨b18_, (Value.iface it ix), (Value.iface jt jx), (Value.iface vt vx), (Value.iface jt jx), 1, kb, ke, ke⟩ : ND K).a) (upC O (some ((Value.iface jt jx), ke)) ((⟨true, f36_p, f36_o⟩ : Fr K) :: f36_C)) :: clf sb 185 sc :: cl b10_ 111 [((Value.iface it ix)), ((Value.iface jt jx))] :: cl b2_ 111 [((Value.iface it ix)), ((Value.iface jt jx))] :: cl tb 188 [(vP (some ⟨(ra (⟨b18_, (Value.iface it ix), (Value.iface jt jx), (Value.iface vt vx), (Value.iface jt jx), 1, kb, ke, ke⟩ : ND K).a (upC O (some ((Value.iface jt jx), ke)) ((⟨true, f36_p, f36_o⟩ : Fr K) :: f36_C))), 0, none⟩)), (vI .i64 cnt), (vQ sb)] :: F) := cast1 (P := fun c__ => Holds w289_ (tr sb (pa sb (upC O (some ((Value.iface jt jx), ke)) ((⟨true, f36_p, f36_o⟩ : Fr K) :: f36_C))) (Tr.nd (⟨b18_, (Value.iface it ix), (Value.iface jt jx), (Value.iface vt vx), (Value.iface jt jx), 1, kb, ke, ke⟩ : ND K) (Tr.lf : Tr K) (Tr.lf : Tr K)) :: ro R :: c__ :: clf sb 185 sc :: cl b10_ 111 [((Value.iface it ix)), ((Value.iface jt jx))] :: cl b2_ 111 [((Value.iface it ix)), ((Value.iface jt jx))] :: cl tb 188 [(vP (some ⟨(ra (⟨b18_, (Value.iface it ix), (Value.iface jt jx), (Value.iface vt vx), (Value.iface jt jx), 1, kb, ke, ke⟩ : ND K).a (upC O (some ((Value.iface jt jx), ke)) ((⟨true, f36_p, f36_o⟩ : Fr K) :: f36_C))), 0, none⟩)), (vI .i64 cnt), (vQ sb)] :: F)) eH303_ H302_
      have H307_ := ((Holds.bring (Holds.bring (Holds.bring (Holds.bring (Holds.bring H303_ 3 rfl) 3 rfl) 2 rfl) 6 rfl) 4 rfl) :)
      refine S_list (T_call (al := [(vQ tb), (vP (some ⟨(⟨b18_, (Value.iface it ix), (Value.iface jt jx), (Value.iface vt vx), (Value.iface jt jx), 1, kb, ke, ke⟩ : ND K).a, 0, none⟩))]) (pre := [cl tb 188 [(vP (some ⟨(ra (⟨b18_, (Value.iface it ix), (Value.iface jt jx), (Value.iface vt vx), (Value.iface jt jx), 1, kb, ke, ke⟩ : ND K).a (upC O (some ((Value.iface jt jx), ke)) ((⟨true, f36_p, f36_o⟩ : Fr K) :: f36_C))), 0, none⟩)), (vI .i64 cnt), (vQ sb)], tr sb (pa sb (upC O (some ((Value.iface jt jx), ke)) ((⟨true, f36_p, f36_o⟩ : Fr K) :: f36_C))) (Tr.nd (⟨b18_, (Value.iface it ix), (Value.iface jt jx), (Value.iface vt vx), (Value.iface jt jx), 1, kb, ke, ke⟩ : ND K) (Tr.lf : Tr K) (Tr.lf : Tr K)), cx sb ((⟨b18_, (Value.iface it ix), (Value.iface jt jx), (Value.iface vt vx), (Value.iface jt jx), 1, kb, ke, ke⟩ : ND K).a) (upC O (some ((Value.iface jt jx), ke)) ((⟨true, f36_p, f36_o⟩ : Fr K) :: f36_C)), clf sb 185 sc]) rfl (lcons rfl (lcons ((by first | rfl | omega | (simp; done) | (simp; omega)) : (vQ b18_) = (vP (some ⟨(⟨b18_, (Value.iface it ix), (Value.iface jt jx), (Value.iface vt vx), (Value.iface jt jx), 1, kb, ke, ke⟩ : ND K).a, 0, none⟩))) rfl)) cb162 (itFix R K O tb sb cnt sc (⟨b18_, (Value.iface it ix), (Value.iface jt jx), (Value.iface vt vx), (Value.iface jt jx), 1, kb, ke, ke⟩ : ND K) (Tr.lf : Tr K) (Tr.lf : Tr K) (upC O (some ((Value.iface jt jx), ke)) ((⟨true, f36_p, f36_o⟩ : Fr K) :: f36_C)) (inl ((⟨true, f36_p, f36_o⟩ : Fr K) :: f36_C) ++ (⟨b18_, (Value.iface it ix), (Value.iface jt jx), (Value.iface vt vx), (Value.iface jt jx), 1, kb, ke, ke⟩ : ND K).er :: inr ((⟨true, f36_p, f36_o⟩ : Fr K) :: f36_C)) (hFx_)) H307_ ?_)
      rintro v304_ p311_ w308_ ⟨W305_, rfl, rfl, he306_⟩ S310_ H309_
      have S312_ := Same.trans S292_ S310_
      refine wpList_nil (X_then (hK293_ _ _ ?_))
      clear hK293_
      refine C_reg ?_
      refine sv (v := (vQ tb)) (x_move rfl) ?_
      refine sv (v := (vQ tb)) (by kernel_rfl) ?_
      refine sv (v := (vP (some ⟨tb, 1, none⟩))) (by kernel_rfl) ?_
      refine sv (v := (vI .i64 cnt)) (x_load1 rfl Try.underlying3 rfl ((Holds.rd H309_ 1 rfl) 1 (vI .i64 cnt) rfl)) ?_
      refine sv (v := (vI .i64 (IntKind.i64.wrap (cnt + 1)))) (x_bin rfl rfl rfl) ?_
      refine sv (v := (vQ tb)) (by kernel_rfl) ?_
      refine sv (v := (vP (some ⟨tb, 1, none⟩))) (by kernel_rfl) ?_
      refine S_list0 (T_store1 (v := (vI .i64 (IntKind.i64.wrap (cnt + 1)))) rfl rfl z3 rfl H309_ 1 rfl (Nat.le_of_ble_eq_true (by rfl)) ?_)
      intro w313_ S315_ H314_
      have S316_ := Same.trans S312_ S315_
      refine wpList_nil ?_
      refine R_0 rfl ?_
      have H317_ : Holds w313_ (ro R :: cl tb 188 [(vQ (rt sb W305_)), (vI .i64 (IntKind.i64.wrap (cnt + 1))), (vQ sb)] :: tr sb sb W305_ :: clf sb 185 sc :: F) := (Holds.pkF H314_ [0, 0, 0, 0] 2 :)
      exact ⟨_, _, rfl, ⟨W305_, (inl ((⟨true, f36_p, f36_o⟩ : Fr K) :: f36_C)), (inr ((⟨true, f36_p, f36_o⟩ : Fr K) :: f36_C)), (⟨b18_, (Value.iface it ix), (Value.iface jt jx), (Value.iface vt vx), (Value.iface jt jx), 1, kb, ke, ke⟩ : ND K), rfl, rfl, (⟨he306_.1, he306_.2.1, he306_.2.2.2⟩), (he306_.2.2.1), (by rw [ino_plug]; simp [ino]), (⟨rfl, rfl, rfl, rfl, rfl⟩), (by rw [he306_.2.2.1]; exact ins_srt hway (by have := hs; rw [ino_plug] at this; simpa [ino] using this)), ((way_in (C := ((⟨true, f36_p, f36_o⟩ : Fr K) :: f36_C)) (M := []) hway (by have := hs; rw [ino_plug] at this; simpa [ino] using this)).1), ((way_in (C := ((⟨true, f36_p, f36_o⟩ : Fr K) :: f36_C)) (M := []) hway (by have := hs; rw [ino_plug] at this; simpa [ino] using this)).2)⟩, S316_, H317_⟩
     ·have c273_fp : ¬ (O.cm ke f36_p.ke < 0) := of_decide_eq_false c273_f
      omega
    ·have c264_fp : ¬ (O.cm kb f36_p.kb = 0) := of_decide_eq_false c264_f
     omega
 ·skip
  have H318_ : Holds w28_ (cx sb f33_n.a C1 :: clf b18_ 185 [((Value.iface it ix)), ((Value.iface jt jx)), ((Value.iface vt vx)), ((Value.iface jt jx)), (vQ sb), (vQ sb), (vQ sb), (vI .i64 1)] :: cl b10_ 111 [((Value.iface it ix)), ((Value.iface jt jx))] :: cl b2_ 111 [((Value.iface it ix)), ((Value.iface jt jx))] :: ro R :: cl tb 188 [(vQ (rt sb W)), (vI .i64 cnt), (vQ sb)] :: tr sb (pa sb C1) (Tr.nd f33_n f33_a f33_b) :: clf sb 185 sc :: F) := (H29_)
  have H319_ := ((Holds.bring H318_ 6 rfl) :)
  have H320_ := Holds.tr_nd H319_
  have hk_ := hTk.1
  refine sv (v := (vQ f33_n.a)) (x_move rfl) ?_
  refine sv (v := (vQ tb)) (x_move rfl) ?_
  refine sv (v := (vQ tb)) (by kernel_rfl) ?_
  refine sv (v := (vP (some ⟨tb, 2, none⟩))) (by kernel_rfl) ?_
  refine sv (v := (vQ sb)) (x_load1 rfl Try.underlying182 rfl ((Holds.rd H320_ 8 rfl) 2 (vQ sb) rfl)) ?_
  have hpc321_ : f33_n.a ≠ sb := Holds.ne_f H320_ 0 rfl 9 rfl (by decide)
  refine sv (v := (vB true)) (x_cast (x_nePN rfl rfl Try.underlying182 z185 (by decide) (Holds.blk H320_ 0 rfl) (Holds.blk H320_ 9 rfl)) (congrArg vB (decide_eq_true hpc321_))) ?_
  refine wpList_nil (X_then (hK32_ _ _ ?_))
  clear hK32_
  refine C_condT rfl ?_
  refine C_skip (X_then (hK31_ _ _ ?_))
  clear hK31_
  refine C_block ?_
  refine C_seq (fun K322_ hK322_ => C_reg ?_)
  refine sv (v := (vQ f33_n.a)) (x_move rfl) ?_
  refine sv (v := (vQ f33_n.a)) (x_assign rfl) ?_
  refine wpList_nil (X_then (hK322_ _ _ ?_))
  clear hK322_
  refine C_seq (fun K323_ hK323_ => ?_)
  refine A_start (S := fun w => (Rd f33_n.a [f33_n.b, f33_n.e, f33_n.v, f33_n.mx, (vQ (rt sb f33_a)), (vQ (rt sb f33_b)), (vQ (pa sb C1)), (vI .i64 f33_n.c)] w ∧ Blk w f33_n.a) ∧ RtRd w (rt sb f33_a) (rmx f33_a) ∧ RtRd w (rt sb f33_b) (rmx f33_b) ∧ (Rd b18_ [((Value.iface it ix)), ((Value.iface jt jx)), ((Value.iface vt vx)), ((Value.iface jt jx)), (vQ sb), (vQ sb), (vQ sb), (vI .i64 1)] w ∧ Blk w b18_) ∧ Sub R (hp w)) (N := 16) foll rfl rfl ?_
  have H324_ := Holds.drew_ H320_
  have hq325_ := And.intro ((And.intro (Holds.rdf H324_ 0 rfl) (Holds.blk H324_ 0 rfl))) (And.intro (Holds.tr_rd H324_ 1 rfl 9 rfl) (And.intro (Holds.tr_rd H324_ 2 rfl 9 rfl) (And.intro ((And.intro (Holds.rdf H324_ 4 rfl) (Holds.blk H324_ 4 rfl))) ((Holds.ro_at H324_ 7 rfl)))))
  refine A_tk 0 (v := (vQ b18_)) rfl (by kernel_rfl) (fun w hS => x_move rfl) hq325_ ?_
  refine A_tk 1 (v := (vQ b18_)) rfl (by kernel_rfl) (fun w hS => by kernel_rfl) hq325_ ?_
  refine A_tk 2 (v := (vQ b18_)) rfl (by kernel_rfl) (fun w hS => by kernel_rfl) hq325_ ?_
  refine A_tk 3 (v := (vQ b18_)) rfl (by kernel_rfl) (fun w hS => by kernel_rfl) hq325_ ?_
  refine A_tk 4 (v := (vQ b18_)) rfl (by kernel_rfl) (fun w hS => by kernel_rfl) hq325_ ?_
  refine A_tk 5 (v := ((Value.iface it ix))) rfl (by kernel_rfl) (fun w hS => x_load1 rfl Try.underlying109 rfl (hS.2.2.2.1.1 0 ((Value.iface it ix)) rfl)) hq325_ ?_
  refine A_tk 6 (v := (vQ f33_n.a)) rfl (by kernel_rfl) (fun w hS => x_move rfl) hq325_ ?_
  refine A_tk 7 (v := (vQ f33_n.a)) rfl (by kernel_rfl) (fun w hS => by kernel_rfl) hq325_ ?_
  refine A_tk 8 (v := (vQ f33_n.a)) rfl (by kernel_rfl) (fun w hS => by kernel_rfl) hq325_ ?_
  refine A_tk 9 (v := (vQ f33_n.a)) rfl (by kernel_rfl) (fun w hS => by kernel_rfl) hq325_ ?_
  refine A_tk 10 (v := (vQ f33_n.a)) rfl (by kernel_rfl) (fun w hS => by kernel_rfl) hq325_ ?_
  refine A_tk 11 (v := f33_n.b) rfl (by kernel_rfl) (fun w hS => x_load1 rfl Try.underlying109 rfl (hS.1.1 0 f33_n.b rfl)) hq325_ ?_
  refine A_tk 12 (v := ((Value.iface it ix))) rfl (by kernel_rfl) (fun w hS => by kernel_rfl) hq325_ ?_
  refine A_tk 13 (v := ((Value.iface it ix))) rfl (by kernel_rfl) (fun w hS => x_move rfl) hq325_ ?_
  refine A_ready (i := 14) (rs := []) (by kernel_rfl) ?_
  refine AllR.cons ?_ AllR.nil
  refine A_op (ls' := #[true, true, true, true, true, true, true, true, true, true, true, true, true, true, true, false]) rfl (by kernel_rfl) (T_cmp rfl rfl (O.cmp hb (hk_.b)) H324_ 7 rfl ?_)
  intro w326_ S328_ H327_
  have S329_ := Same.trans (Same.trans S30_ (Same.drew _)) S328_
  refine ⟨⟨(And.intro (Holds.rdf H327_ 0 rfl) (Holds.blk H327_ 0 rfl)), Holds.tr_rd H327_ 1 rfl 9 rfl, Holds.tr_rd H327_ 2 rfl 9 rfl, (And.intro (Holds.rdf H327_ 4 rfl) (Holds.blk H327_ 4 rfl)), (Holds.ro_at H327_ 7 rfl)⟩, ?_⟩
  have hq330_ := And.intro ((And.intro (Holds.rdf H327_ 0 rfl) (Holds.blk H327_ 0 rfl))) (And.intro (Holds.tr_rd H327_ 1 rfl 9 rfl) (And.intro (Holds.tr_rd H327_ 2 rfl 9 rfl) (And.intro ((And.intro (Holds.rdf H327_ 4 rfl) (Holds.blk H327_ 4 rfl))) ((Holds.ro_at H327_ 7 rfl)))))
  refine A_tk 15 (v := (vI .i64 (O.cm kb f33_n.kb))) rfl (by kernel_rfl) (fun w hS => x_assign rfl) hq330_ ?_
  refine A_done (by kernel_rfl) ?_
  refine (X_then (hK323_ _ _ ?_))
  clear hK323_
  refine C_seq (fun K331_ hK331_ => C_reg ?_)
  refine sv (v := (vI .i64 (O.cm kb f33_n.kb))) (x_move rfl) ?_
  refine sv (v := (vB (decide (O.cm kb f33_n.kb < 0)))) (x_bin rfl rfl rfl) ?_
  refine wpList_nil (X_then (hK331_ _ _ ?_))
  clear hK331_
  refine C_cond (b := decide (O.cm kb f33_n.kb < 0)) rfl (fun c332_t => ?_) (fun c332_f => ?_)
  ·have c332_tp : O.cm kb f33_n.kb < 0 := of_decide_eq_true c332_t
   refine C_reg ?_
   refine sv (v := (vQ f33_n.a)) (x_move rfl) ?_
   refine sv (v := (vQ f33_n.a)) (by kernel_rfl) ?_
   refine sv (v := (vP (some ⟨f33_n.a, 4, none⟩))) (by kernel_rfl) ?_
   refine sv (v := (vQ (rt sb f33_a))) (x_load1 rfl Try.underlying182 rfl ((Holds.rdf H327_ 0 rfl) 4 (vQ (rt sb f33_a)) rfl)) ?_
   refine sv (v := (vQ (rt sb f33_a))) (x_assign rfl) ?_
   refine wpList_nil (X_blkN (X_then ?_))
   have H333_ := ((Holds.bring (Holds.bring (Holds.bring H327_ 3 rfl) 3 rfl) 2 rfl) :)
   have H334_ := Holds.cons_cx (sb := sb) (f := (⟨true, f33_n, f33_b⟩ : Fr K)) (C := C1) (x := (rt sb f33_a)) H333_
   have H335_ : Holds w326_ (cx sb (rt sb f33_a) ((⟨true, f33_n, f33_b⟩ : Fr K) :: C1) :: tr sb (pa sb ((⟨true, f33_n, f33_b⟩ : Fr K) :: C1)) f33_a :: clf b18_ 185 [((Value.iface it ix)), ((Value.iface jt jx)), ((Value.iface vt vx)), ((Value.iface jt jx)), (vQ sb), (vQ sb), (vQ sb), (vI .i64 1)] :: cl b10_ 111 [((Value.iface it ix)), ((Value.iface jt jx))] :: cl b2_ 111 [((Value.iface it ix)), ((Value.iface jt jx))] :: ro R :: cl tb 188 [(vQ (rt sb W)), (vI .i64 cnt), (vQ sb)] :: clf sb 185 sc :: F) := (H334_)
   have H336_ : Holds w326_ (cx sb (rt sb f33_a) ((⟨true, f33_n, f33_b⟩ : Fr K) :: C1) :: clf b18_ 185 [((Value.iface it ix)), ((Value.iface jt jx)), ((Value.iface vt vx)), ((Value.iface jt jx)), (vQ sb), (vQ sb), (vQ sb), (vI .i64 1)] :: cl b10_ 111 [((Value.iface it ix)), ((Value.iface jt jx))] :: cl b2_ 111 [((Value.iface it ix)), ((Value.iface jt jx))] :: ro R :: cl tb 188 [(vQ (rt sb W)), (vI .i64 cnt), (vQ sb)] :: tr sb (pa sb ((⟨true, f33_n, f33_b⟩ : Fr K) :: C1)) f33_a :: clf sb 185 sc :: F) := (Holds.pkF H335_ [0, 1, 1, 1, 1, 1, 0, 0] 0 :)
   exact ⟨⟨((⟨true, f33_n, f33_b⟩ : Fr K) :: C1), f33_a⟩, ⟨_, congrArg (fun e => mkA 165 e []) (ch (ch (ch (ch rfl rfl) ((by first | rfl | omega | (simp; done) | (simp; omega)) : (vQ f33_n.a) = (vP (some ⟨(pa sb ((⟨true, f33_n, f33_b⟩ : Fr K) :: C1)), 0, none⟩)))) rfl) rfl), H336_, S329_, (hpl), (⟨by unfold bef; first | omega | (simp; omega), hway⟩), (hTk.2.1), (COk.cons (f := (⟨true, f33_n, f33_b⟩ : Fr K)) hTk.1 hTk.2.2 hCk)⟩, (by first | (simp [ino]; done) | (simp [ino]; omega))⟩
  ·have c332_fp : ¬ (O.cm kb f33_n.kb < 0) := of_decide_eq_false c332_f
   refine C_seq (fun K337_ hK337_ => C_reg ?_)
   refine sv (v := (vI .i64 (O.cm kb f33_n.kb))) (x_move rfl) ?_
   refine sv (v := (vB (decide (O.cm kb f33_n.kb = 0)))) (x_bin rfl rfl rfl) ?_
   refine wpList_nil (X_then (hK337_ _ _ ?_))
   clear hK337_
   refine C_cond (b := decide (O.cm kb f33_n.kb = 0)) rfl (fun c338_t => ?_) (fun c338_f => ?_)
   ·have c338_tp : O.cm kb f33_n.kb = 0 := of_decide_eq_true c338_t
    refine C_seq (fun K339_ hK339_ => ?_)
    refine A_start (S := fun w => (Rd f33_n.a [f33_n.b, f33_n.e, f33_n.v, f33_n.mx, (vQ (rt sb f33_a)), (vQ (rt sb f33_b)), (vQ (pa sb C1)), (vI .i64 f33_n.c)] w ∧ Blk w f33_n.a) ∧ RtRd w (rt sb f33_a) (rmx f33_a) ∧ RtRd w (rt sb f33_b) (rmx f33_b) ∧ (Rd b18_ [((Value.iface it ix)), ((Value.iface jt jx)), ((Value.iface vt vx)), ((Value.iface jt jx)), (vQ sb), (vQ sb), (vQ sb), (vI .i64 1)] w ∧ Blk w b18_) ∧ Sub R (hp w)) (N := 16) foll rfl rfl ?_
    have H340_ := Holds.drew_ H327_
    have hq341_ := And.intro ((And.intro (Holds.rdf H340_ 0 rfl) (Holds.blk H340_ 0 rfl))) (And.intro (Holds.tr_rd H340_ 1 rfl 9 rfl) (And.intro (Holds.tr_rd H340_ 2 rfl 9 rfl) (And.intro ((And.intro (Holds.rdf H340_ 4 rfl) (Holds.blk H340_ 4 rfl))) ((Holds.ro_at H340_ 7 rfl)))))
    refine A_tk 0 (v := (vQ b18_)) rfl (by kernel_rfl) (fun w hS => x_move rfl) hq341_ ?_
    refine A_tk 1 (v := (vQ b18_)) rfl (by kernel_rfl) (fun w hS => by kernel_rfl) hq341_ ?_
    refine A_tk 2 (v := (vQ b18_)) rfl (by kernel_rfl) (fun w hS => by kernel_rfl) hq341_ ?_
    refine A_tk 3 (v := (vQ b18_)) rfl (by kernel_rfl) (fun w hS => by kernel_rfl) hq341_ ?_
    refine A_tk 4 (v := (vP (some ⟨b18_, 1, none⟩))) rfl (by kernel_rfl) (fun w hS => by kernel_rfl) hq341_ ?_
    refine A_tk 5 (v := ((Value.iface jt jx))) rfl (by kernel_rfl) (fun w hS => x_load1 rfl Try.underlying109 rfl (hS.2.2.2.1.1 1 ((Value.iface jt jx)) rfl)) hq341_ ?_
    refine A_tk 6 (v := (vQ f33_n.a)) rfl (by kernel_rfl) (fun w hS => x_move rfl) hq341_ ?_
    refine A_tk 7 (v := (vQ f33_n.a)) rfl (by kernel_rfl) (fun w hS => by kernel_rfl) hq341_ ?_
    refine A_tk 8 (v := (vQ f33_n.a)) rfl (by kernel_rfl) (fun w hS => by kernel_rfl) hq341_ ?_
    refine A_tk 9 (v := (vQ f33_n.a)) rfl (by kernel_rfl) (fun w hS => by kernel_rfl) hq341_ ?_
    refine A_tk 10 (v := (vP (some ⟨f33_n.a, 1, none⟩))) rfl (by kernel_rfl) (fun w hS => by kernel_rfl) hq341_ ?_
    refine A_tk 11 (v := f33_n.e) rfl (by kernel_rfl) (fun w hS => x_load1 rfl Try.underlying109 rfl (hS.1.1 1 f33_n.e rfl)) hq341_ ?_
    refine A_tk 12 (v := ((Value.iface jt jx))) rfl (by kernel_rfl) (fun w hS => by kernel_rfl) hq341_ ?_
    refine A_tk 13 (v := ((Value.iface jt jx))) rfl (by kernel_rfl) (fun w hS => x_move rfl) hq341_ ?_
    refine A_ready (i := 14) (rs := []) (by kernel_rfl) ?_
    refine AllR.cons ?_ AllR.nil
    refine A_op (ls' := #[true, true, true, true, true, true, true, true, true, true, true, true, true, true, true, false]) rfl (by kernel_rfl) (T_cmp rfl rfl (O.cmp he (hk_.e)) H340_ 7 rfl ?_)
    intro w342_ S344_ H343_
    have S345_ := Same.trans (Same.trans S329_ (Same.drew _)) S344_
    refine ⟨⟨(And.intro (Holds.rdf H343_ 0 rfl) (Holds.blk H343_ 0 rfl)), Holds.tr_rd H343_ 1 rfl 9 rfl, Holds.tr_rd H343_ 2 rfl 9 rfl, (And.intro (Holds.rdf H343_ 4 rfl) (Holds.blk H343_ 4 rfl)), (Holds.ro_at H343_ 7 rfl)⟩, ?_⟩
    have hq346_ := And.intro ((And.intro (Holds.rdf H343_ 0 rfl) (Holds.blk H343_ 0 rfl))) (And.intro (Holds.tr_rd H343_ 1 rfl 9 rfl) (And.intro (Holds.tr_rd H343_ 2 rfl 9 rfl) (And.intro ((And.intro (Holds.rdf H343_ 4 rfl) (Holds.blk H343_ 4 rfl))) ((Holds.ro_at H343_ 7 rfl)))))
    refine A_tk 15 (v := (vB (decide (O.cm ke f33_n.ke < 0)))) rfl (by kernel_rfl) (fun w hS => x_bin rfl rfl rfl) hq346_ ?_
    refine A_done (by kernel_rfl) ?_
    refine (X_then (hK339_ _ _ ?_))
    clear hK339_
    refine C_cond (b := decide (O.cm ke f33_n.ke < 0)) rfl (fun c347_t => ?_) (fun c347_f => ?_)
    ·have c347_tp : O.cm ke f33_n.ke < 0 := of_decide_eq_true c347_t
     refine C_reg ?_
     refine sv (v := (vQ f33_n.a)) (x_move rfl) ?_
     refine sv (v := (vQ f33_n.a)) (by kernel_rfl) ?_
     refine sv (v := (vP (some ⟨f33_n.a, 4, none⟩))) (by kernel_rfl) ?_
     refine sv (v := (vQ (rt sb f33_a))) (x_load1 rfl Try.underlying182 rfl ((Holds.rdf H343_ 0 rfl) 4 (vQ (rt sb f33_a)) rfl)) ?_
     refine sv (v := (vQ (rt sb f33_a))) (x_assign rfl) ?_
     refine wpList_nil (X_blkN (X_then ?_))
     have H348_ := ((Holds.bring (Holds.bring (Holds.bring H343_ 3 rfl) 3 rfl) 2 rfl) :)
     have H349_ := Holds.cons_cx (sb := sb) (f := (⟨true, f33_n, f33_b⟩ : Fr K)) (C := C1) (x := (rt sb f33_a)) H348_
     have H350_ : Holds w342_ (cx sb (rt sb f33_a) ((⟨true, f33_n, f33_b⟩ : Fr K) :: C1) :: tr sb (pa sb ((⟨true, f33_n, f33_b⟩ : Fr K) :: C1)) f33_a :: clf b18_ 185 [((Value.iface it ix)), ((Value.iface jt jx)), ((Value.iface vt vx)), ((Value.iface jt jx)), (vQ sb), (vQ sb), (vQ sb), (vI .i64 1)] :: cl b10_ 111 [((Value.iface it ix)), ((Value.iface jt jx))] :: cl b2_ 111 [((Value.iface it ix)), ((Value.iface jt jx))] :: ro R :: cl tb 188 [(vQ (rt sb W)), (vI .i64 cnt), (vQ sb)] :: clf sb 185 sc :: F) := (H349_)
     have H351_ : Holds w342_ (cx sb (rt sb f33_a) ((⟨true, f33_n, f33_b⟩ : Fr K) :: C1) :: clf b18_ 185 [((Value.iface it ix)), ((Value.iface jt jx)), ((Value.iface vt vx)), ((Value.iface jt jx)), (vQ sb), (vQ sb), (vQ sb), (vI .i64 1)] :: cl b10_ 111 [((Value.iface it ix)), ((Value.iface jt jx))] :: cl b2_ 111 [((Value.iface it ix)), ((Value.iface jt jx))] :: ro R :: cl tb 188 [(vQ (rt sb W)), (vI .i64 cnt), (vQ sb)] :: tr sb (pa sb ((⟨true, f33_n, f33_b⟩ : Fr K) :: C1)) f33_a :: clf sb 185 sc :: F) := (Holds.pkF H350_ [0, 1, 1, 1, 1, 1, 0, 0] 0 :)
     exact ⟨⟨((⟨true, f33_n, f33_b⟩ : Fr K) :: C1), f33_a⟩, ⟨_, congrArg (fun e => mkA 165 e []) (ch (ch (ch (ch rfl rfl) ((by first | rfl | omega | (simp; done) | (simp; omega)) : (vQ f33_n.a) = (vP (some ⟨(pa sb ((⟨true, f33_n, f33_b⟩ : Fr K) :: C1)), 0, none⟩)))) rfl) rfl), H351_, S345_, (hpl), (⟨by unfold bef; first | omega | (simp; omega), hway⟩), (hTk.2.1), (COk.cons (f := (⟨true, f33_n, f33_b⟩ : Fr K)) hTk.1 hTk.2.2 hCk)⟩, (by first | (simp [ino]; done) | (simp [ino]; omega))⟩
    ·have c347_fp : ¬ (O.cm ke f33_n.ke < 0) := of_decide_eq_false c347_f
     refine C_reg ?_
     refine sv (v := (vQ f33_n.a)) (x_move rfl) ?_
     refine sv (v := (vQ f33_n.a)) (by kernel_rfl) ?_
     refine sv (v := (vP (some ⟨f33_n.a, 5, none⟩))) (by kernel_rfl) ?_
     refine sv (v := (vQ (rt sb f33_b))) (x_load1 rfl Try.underlying182 rfl ((Holds.rdf H343_ 0 rfl) 5 (vQ (rt sb f33_b)) rfl)) ?_
     refine sv (v := (vQ (rt sb f33_b))) (x_assign rfl) ?_
     refine wpList_nil (X_blkN (X_then ?_))
     have H352_ := ((Holds.bring (Holds.bring (Holds.bring H343_ 3 rfl) 2 rfl) 2 rfl) :)
     have H353_ := Holds.cons_cx (sb := sb) (f := (⟨false, f33_n, f33_a⟩ : Fr K)) (C := C1) (x := (rt sb f33_b)) H352_
     have H354_ : Holds w342_ (cx sb (rt sb f33_b) ((⟨false, f33_n, f33_a⟩ : Fr K) :: C1) :: tr sb (pa sb ((⟨false, f33_n, f33_a⟩ : Fr K) :: C1)) f33_b :: clf b18_ 185 [((Value.iface it ix)), ((Value.iface jt jx)), ((Value.iface vt vx)), ((Value.iface jt jx)), (vQ sb), (vQ sb), (vQ sb), (vI .i64 1)] :: cl b10_ 111 [((Value.iface it ix)), ((Value.iface jt jx))] :: cl b2_ 111 [((Value.iface it ix)), ((Value.iface jt jx))] :: ro R :: cl tb 188 [(vQ (rt sb W)), (vI .i64 cnt), (vQ sb)] :: clf sb 185 sc :: F) := (H353_)
     have H355_ : Holds w342_ (cx sb (rt sb f33_b) ((⟨false, f33_n, f33_a⟩ : Fr K) :: C1) :: clf b18_ 185 [((Value.iface it ix)), ((Value.iface jt jx)), ((Value.iface vt vx)), ((Value.iface jt jx)), (vQ sb), (vQ sb), (vQ sb), (vI .i64 1)] :: cl b10_ 111 [((Value.iface it ix)), ((Value.iface jt jx))] :: cl b2_ 111 [((Value.iface it ix)), ((Value.iface jt jx))] :: ro R :: cl tb 188 [(vQ (rt sb W)), (vI .i64 cnt), (vQ sb)] :: tr sb (pa sb ((⟨false, f33_n, f33_a⟩ : Fr K) :: C1)) f33_b :: clf sb 185 sc :: F) := (Holds.pkF H354_ [0, 1, 1, 1, 1, 1, 0, 0] 0 :)
     exact ⟨⟨((⟨false, f33_n, f33_a⟩ : Fr K) :: C1), f33_b⟩, ⟨_, congrArg (fun e => mkA 165 e []) (ch (ch (ch (ch rfl rfl) ((by first | rfl | omega | (simp; done) | (simp; omega)) : (vQ f33_n.a) = (vP (some ⟨(pa sb ((⟨false, f33_n, f33_a⟩ : Fr K) :: C1)), 0, none⟩)))) rfl) rfl), H355_, S345_, (hpl), (⟨by unfold bef; first | omega | (simp; omega), hway⟩), (hTk.2.2), (COk.cons (f := (⟨false, f33_n, f33_a⟩ : Fr K)) hTk.1 hTk.2.1 hCk)⟩, (by first | (simp [ino]; done) | (simp [ino]; omega))⟩
   ·have c338_fp : ¬ (O.cm kb f33_n.kb = 0) := of_decide_eq_false c338_f
    refine C_reg ?_
    refine sv (v := (vQ f33_n.a)) (x_move rfl) ?_
    refine sv (v := (vQ f33_n.a)) (by kernel_rfl) ?_
    refine sv (v := (vP (some ⟨f33_n.a, 5, none⟩))) (by kernel_rfl) ?_
    refine sv (v := (vQ (rt sb f33_b))) (x_load1 rfl Try.underlying182 rfl ((Holds.rdf H327_ 0 rfl) 5 (vQ (rt sb f33_b)) rfl)) ?_
    refine sv (v := (vQ (rt sb f33_b))) (x_assign rfl) ?_
    refine wpList_nil (X_blkN (X_then ?_))
    have H356_ := ((Holds.bring (Holds.bring (Holds.bring H327_ 3 rfl) 2 rfl) 2 rfl) :)
    have H357_ := Holds.cons_cx (sb := sb) (f := (⟨false, f33_n, f33_a⟩ : Fr K)) (C := C1) (x := (rt sb f33_b)) H356_
    have H358_ : Holds w326_ (cx sb (rt sb f33_b) ((⟨false, f33_n, f33_a⟩ : Fr K) :: C1) :: tr sb (pa sb ((⟨false, f33_n, f33_a⟩ : Fr K) :: C1)) f33_b :: clf b18_ 185 [((Value.iface it ix)), ((Value.iface jt jx)), ((Value.iface vt vx)), ((Value.iface jt jx)), (vQ sb), (vQ sb), (vQ sb), (vI .i64 1)] :: cl b10_ 111 [((Value.iface it ix)), ((Value.iface jt jx))] :: cl b2_ 111 [((Value.iface it ix)), ((Value.iface jt jx))] :: ro R :: cl tb 188 [(vQ (rt sb W)), (vI .i64 cnt), (vQ sb)] :: clf sb 185 sc :: F) := (H357_)
    have H359_ : Holds w326_ (cx sb (rt sb f33_b) ((⟨false, f33_n, f33_a⟩ : Fr K) :: C1) :: clf b18_ 185 [((Value.iface it ix)), ((Value.iface jt jx)), ((Value.iface vt vx)), ((Value.iface jt jx)), (vQ sb), (vQ sb), (vQ sb), (vI .i64 1)] :: cl b10_ 111 [((Value.iface it ix)), ((Value.iface jt jx))] :: cl b2_ 111 [((Value.iface it ix)), ((Value.iface jt jx))] :: ro R :: cl tb 188 [(vQ (rt sb W)), (vI .i64 cnt), (vQ sb)] :: tr sb (pa sb ((⟨false, f33_n, f33_a⟩ : Fr K) :: C1)) f33_b :: clf sb 185 sc :: F) := (Holds.pkF H358_ [0, 1, 1, 1, 1, 1, 0, 0] 0 :)
    exact ⟨⟨((⟨false, f33_n, f33_a⟩ : Fr K) :: C1), f33_b⟩, ⟨_, congrArg (fun e => mkA 165 e []) (ch (ch (ch (ch rfl rfl) ((by first | rfl | omega | (simp; done) | (simp; omega)) : (vQ f33_n.a) = (vP (some ⟨(pa sb ((⟨false, f33_n, f33_a⟩ : Fr K) :: C1)), 0, none⟩)))) rfl) rfl), H359_, S329_, (hpl), (⟨by unfold bef; first | omega | (simp; omega), hway⟩), (hTk.2.2), (COk.cons (f := (⟨false, f33_n, f33_a⟩ : Fr K)) hTk.1 hTk.2.1 hCk)⟩, (by first | (simp [ino]; done) | (simp [ino]; omega))⟩

theorem itInsert (R : HP) (K : Type) (O : KO K) (tb sb : Nat) (cnt : Int) (sc : List Value) (W : Tr K) (it jt vt : TypeId) (ix jx vx : Value) (kb ke : K) (hW : TOk O R W ∧ LocT O W ∧ blackT W) (hb : O.Val R (Value.iface it ix) kb) (he : O.Val R (Value.iface jt jx) ke) (hcn : 0 ≤ cnt ∧ cnt ≤ 1000000000000) (hs : srt O (ino W)) :
    Tri Try.prog 147 #[(vQ tb), (vA #[((Value.iface it ix)), ((Value.iface jt jx))]), ((Value.iface vt vx))] R [cl tb 188 [(vQ (rt sb W)), (vI .i64 cnt), (vQ sb)], tr sb sb W, clf sb 185 sc] (fun v__ post__ => ∃ (W' : Tr K) (L1 L2 : List (ND K)) (z : ND K), v__ = (vT #[]) ∧ post__ = [cl tb 188 [(vQ (rt sb W')), (vI .i64 (cnt + 1)), (vQ sb)], tr sb sb W', clf sb 185 sc] ∧ (TOk O R W' ∧ LocT O W' ∧ blackT W') ∧ (ino W' = L1 ++ z.er :: L2) ∧ (ino W = L1 ++ L2) ∧ (z.b = (Value.iface it ix) ∧ z.e = (Value.iface jt jx) ∧ z.v = (Value.iface vt vx) ∧ z.kb = kb ∧ z.ke = ke) ∧ (srt O (ino W')) ∧ (∀ x ∈ L1, ¬ bef O kb ke x) ∧ (∀ y ∈ L2, bef O kb ke y)) := by
  refine (itInsertW R K O tb sb cnt sc W it jt vt ix jx vx kb ke hW hb he hs).mono fun v post h => ?_
  obtain ⟨W', L1, L2, z, h1, h2, h3⟩ := h
  exact ⟨W', L1, L2, z, h1, by rw [h2, IntWalk.i64_in _ (by omega)], h3⟩
end Go.Proofs.Ytlnihndjepjagaa
set_option linter.unusedVariables false
set_option linter.unusedSimpArgs false
namespace Go.Proofs.Ytlnihndjepjagaa
open Go Go.RowKit Gw
open Go.Value renaming int → vI, bool → vB, slice → vS, pointer → vP, agg → vA, tuple → vT

section
variable {K : Type} (O : KO K)
/-- How [b, e) stands to [nb, ne): ahead of it, behind it, or they overlap. -/
def icmp (b e nb ne : K) : Int := if O.cm b nb < 0 ∧ O.cm e nb ≤ 0 then -1 else if 0 ≤ O.cm b ne then 1 else 0
end


end Go.Proofs.Ytlnihndjepjagaa
set_option linter.unusedVariables false
set_option linter.unusedSimpArgs false
namespace Go.Proofs.Ytlnihndjepjagaa
open Go Go.RowKit Gw
open Go.Value renaming int → vI, bool → vB, slice → vS, pointer → vP, agg → vA, tuple → vT

section
variable {K : Type} (O : KO K)
variable {O}
end


end Go.Proofs.Ytlnihndjepjagaa
set_option linter.unusedVariables false
set_option linter.unusedSimpArgs false
namespace Go.Proofs.Ytlnihndjepjagaa
open Go Go.RowKit Gw
open Go.Value renaming int → vI, bool → vB, slice → vS, pointer → vP, agg → vA, tuple → vT

section
variable {K : Type} (O : KO K)
section
variable {σ : Type} (step : σ → ND K → σ × Bool)
/-- What a visit does: the nodes that meet [b, e), in order, till a step says stop. -/
def vis (b e : K) : Tr K → σ → σ × Bool
  | .lf, s => (s, true)
  | .nd n u v, s =>
    if icmp O b e n.kb n.ke < 0 then vis b e u s
    else if 0 < icmp O b e n.kb n.ke then
      (if icmp O n.kb n.km b e = 0 then (if (vis b e u s).2 then vis b e v (vis b e u s).1 else ((vis b e u s).1, false)) else (s, true))
    else if (vis b e u s).2 then
      (if (step (vis b e u s).1 n).2 then vis b e v (step (vis b e u s).1 n).1 else ((step (vis b e u s).1 n).1, false))
    else ((vis b e u s).1, false)
/-- Of all nodes. -/
def TAll (Q : ND K → Prop) : Tr K → Prop | .lf => True | .nd n u v => Q n ∧ TAll Q u ∧ TAll Q v
/-- A list, till a step says stop. -/
def runV : List (ND K) → σ → σ × Bool
  | [], s => (s, true)
  | n :: L, s => if (step s n).2 then runV L (step s n).1 else ((step s n).1, false)
end
/-- What Contains knows on its way: the first begin and the greatest end till now; whether there was no gap. -/
structure CS (K : Type) where
  fm : Option ((Value × K) × (Value × K))
  ok : Bool
def CS.step (s : CS K) (n : ND K) : CS K × Bool :=
  match s.fm with
  | none => (⟨some ((n.b, n.kb), (n.e, n.ke)), s.ok⟩, true)
  | some (f, m) => if O.cm m.2 n.kb < 0 then (⟨s.fm, false⟩, false) else (⟨some (f, if 0 < O.cm n.ke m.2 then (n.e, n.ke) else m), s.ok⟩, true)
def CS.f (s : CS K) : Value := match s.fm with | none => .nilIface | some x => x.1.1
def CS.m (s : CS K) : Value := match s.fm with | none => .nilIface | some x => x.2.1
end
theorem TAll.all {K : Type} {Q : ND K → Prop} (h : ∀ n, Q n) : ∀ t : Tr K, TAll Q t
  | .lf => trivial
  | .nd n u v => ⟨h n, TAll.all h u, TAll.all h v⟩
theorem TAll.of {K : Type} {Q : ND K → Prop} (he : ∀ n, Q n.er → Q n) : ∀ {t : Tr K}, (∀ n ∈ ino t, Q n) → TAll Q t
  | .lf, _ => trivial
  | .nd n u v, h => ⟨he n (h n.er (by simp [ino])), TAll.of he fun x hx => h x (by simp [ino, hx]), TAll.of he fun x hx => h x (by simp [ino, hx])⟩
/-! ### What a visit and a search mean -/
section
variable {K : Type} {O : KO K}
theorem KO.le_of {a b : K} (h : ¬ O.cm a b < 0) : O.cm b a ≤ 0 := by
  have := @KO.flip K O a b
  omega
theorem KO.not_le {a b : K} (h : O.cm a b < 0) : ¬ O.cm b a ≤ 0 := by
  have := @KO.flip K O a b
  omega
theorem KO.lt_le {a b c : K} (h1 : O.cm a b < 0) (h2 : O.cm b c ≤ 0) : O.cm a c < 0 := by
  refine Decidable.byContradiction fun h => ?_
  exact KO.not_le h1 (O.trans h2 (KO.le_of h))
theorem KO.lt_lt {a b c : K} (h1 : O.cm a b < 0) (h2 : O.cm b c < 0) : O.cm a c < 0 := KO.lt_le h1 (by omega)
theorem KO.ge {a b : K} : 0 ≤ O.cm a b ↔ O.cm b a ≤ 0 := by
  have h1 := @KO.flip K O a b
  omega
def meets (O : KO K) (b e : K) (n : ND K) : Bool := decide (O.cm n.kb e < 0 ∧ O.cm b n.ke < 0)
theorem icmp_lt {b e kb ke : K} (hq : O.cm b e < 0) : icmp O b e kb ke < 0 ↔ O.cm e kb ≤ 0 := by
  unfold icmp
  by_cases h : O.cm e kb ≤ 0
  · rw [if_pos ⟨KO.lt_le hq h, h⟩]; simp [h]
  · rw [if_neg (fun h' => h h'.2)]
    split <;> simp [h]
theorem icmp_gt {b e kb ke : K} (hq : O.cm b e < 0) (hn : O.cm kb ke < 0) : 0 < icmp O b e kb ke ↔ O.cm ke b ≤ 0 := by
  unfold icmp
  have h1 := @KO.ge K O b ke
  by_cases h : O.cm e kb ≤ 0
  · rw [if_pos ⟨KO.lt_le hq h, h⟩]
    have : ¬ O.cm ke b ≤ 0 := KO.not_le (KO.lt_lt (KO.lt_le hq h) hn)
    simp [this]
  · rw [if_neg (fun h' => h h'.2)]
    split
    · simp; exact h1.1 (by assumption)
    · have : ¬ O.cm ke b ≤ 0 := fun h' => by have := h1.2 h'; omega
      simp [this]
theorem icmp_eq {b e kb ke : K} (hq : O.cm b e < 0) (hn : O.cm kb ke < 0) : icmp O b e kb ke = 0 ↔ O.cm kb e < 0 ∧ O.cm b ke < 0 := by
  have h1 := @icmp_lt K O b e kb ke hq
  have h2 := @icmp_gt K O b e kb ke hq hn
  have h3 := @KO.ge K O e kb
  have h4 := @KO.ge K O ke b
  have h5 := @KO.flip K O kb e
  have h6 := @KO.flip K O b ke
  omega
theorem pick_spec (a : Value × K) (ob : Option (Value × K)) : O.cm a.2 (pick O a ob).2 ≤ 0 ∧ (∀ b, ob = some b → O.cm b.2 (pick O a ob).2 ≤ 0) ∧ (pick O a ob = a ∨ ob = some (pick O a ob)) := by
  cases ob with
  | none => exact ⟨by rw [pick_none, O.refl]; exact Int.le_refl _, (fun b hb => by cases hb), .inl rfl⟩
  | some b =>
    by_cases h : 0 < O.cm b.2 a.2
    · rw [pick_gt h]
      exact ⟨by have := O.flip.2 h; omega, fun c hc => by cases hc; rw [O.refl]; exact Int.le_refl _, .inr rfl⟩
    · rw [pick_le h]
      exact ⟨by rw [O.refl]; exact Int.le_refl _, fun c hc => by cases hc; omega, .inl rfl⟩
theorem mx_spec : ∀ {t : Tr K}, LocT O t → ∀ m, rmx t = some m → (∀ n ∈ ino t, O.cm n.ke m.2 ≤ 0) ∧ ∃ n ∈ ino t, n.ke = m.2
  | .lf, _, m, hm => by cases hm
  | .nd n u v, h, m, hm => by
    obtain ⟨h1, h2, h3⟩ := h
    have hm' : m = (n.mx, n.km) := by simpa [rmx] using hm.symm
    subst hm'
    have p1 := pick_spec (O := O) (n.e, n.ke) (rmx u)
    have p2 := pick_spec (O := O) (pick O (n.e, n.ke) (rmx u)) (rmx v)
    have e1 := O.anti h1
    have hu : ∀ x ∈ ino u, O.cm x.ke n.km ≤ 0 := fun x hx => by
      cases hr : rmx u with
      | none => cases u with
        | lf => simp [ino] at hx
        | nd _ _ _ => cases hr
      | some q => rw [e1]; exact O.trans ((mx_spec h2 q hr).1 x hx) (O.trans (p1.2.1 q hr) p2.1)
    have hv : ∀ x ∈ ino v, O.cm x.ke n.km ≤ 0 := fun x hx => by
      cases hr : rmx v with
      | none => cases v with
        | lf => simp [ino] at hx
        | nd _ _ _ => cases hr
      | some q => rw [e1]; exact O.trans ((mx_spec h3 q hr).1 x hx) (p2.2.1 q hr)
    refine ⟨fun x hx => ?_, ?_⟩
    · have hx' : x ∈ ino u ∨ x = n.er ∨ x ∈ ino v := by simpa [ino] using hx
      rcases hx' with hx | rfl | hx
      · exact hu x hx
      · show O.cm n.ke n.km ≤ 0
        rw [e1]; exact O.trans p1.1 p2.1
      · exact hv x hx
    · show ∃ x ∈ ino u ++ n.er :: ino v, x.ke = n.km
      rcases p2.2.2 with h | h
      · rcases p1.2.2 with h' | h'
        · exact ⟨n.er, by simp, by show n.ke = n.km; rw [e1, h, h']⟩
        · obtain ⟨x, hx, he⟩ := (mx_spec h2 _ h').2
          exact ⟨x, by simp [hx], by rw [he, e1, h]⟩
      · obtain ⟨x, hx, he⟩ := (mx_spec h3 _ h).2
        exact ⟨x, by simp [hx], by rw [he, e1]⟩
/-- Each interval begins ahead of its end. -/
def Prp (O : KO K) (L : List (ND K)) : Prop := ∀ n ∈ L, O.cm n.kb n.ke < 0
theorem not_bef {x y : ND K} (h : ¬ bef O y.kb y.ke x) : O.cm x.kb y.kb ≤ 0 := KO.le_of fun h' => h (.inl h')
theorem srt_nd {n : ND K} {u v : Tr K} (h : srt O (ino (.nd n u v))) : srt O (ino u) ∧ srt O (ino v) ∧ (∀ x ∈ ino u, O.cm x.kb n.kb ≤ 0) ∧ (∀ y ∈ ino v, O.cm n.kb y.kb ≤ 0) := by
  unfold srt at *
  rw [ino, List.pairwise_append, List.pairwise_cons] at h
  exact ⟨h.1, h.2.1.2, fun x hx => not_bef (y := n.er) (h.2.2 x hx n.er (by simp)), fun y hy => not_bef (x := n.er) (h.2.1.1 y hy)⟩
theorem meets_icmp {b e : K} {n : ND K} (hq : O.cm b e < 0) (hn : O.cm n.kb n.ke < 0) : meets O b e n = decide (icmp O b e n.kb n.ke = 0) := by
  unfold meets
  exact decide_eq_decide.2 (icmp_eq hq hn).symm
theorem nmeet {b e : K} {n : ND K} (h : O.cm e n.kb ≤ 0 ∨ O.cm n.ke b ≤ 0) : meets O b e n = false := by
  refine decide_eq_false fun h' => ?_
  rcases h with h | h
  · exact KO.not_le h'.1 h
  · exact KO.not_le h'.2 h
theorem filter_none {α : Type} {p : α → Bool} {L : List α} (h : ∀ x ∈ L, p x = false) : L.filter p = [] := by
  rw [List.filter_eq_nil_iff]
  intro x hx
  simp [h x hx]
section
variable {σ : Type} {step : σ → ND K → σ × Bool}
theorem runV_app : ∀ (A B : List (ND K)) (s : σ), runV step (A ++ B) s = if (runV step A s).2 then runV step B (runV step A s).1 else ((runV step A s).1, false)
  | [], B, s => by simp [runV]
  | n :: A, B, s => by
    rw [List.cons_append, runV, runV]
    by_cases h : (step s n).2 = true
    · rw [if_pos h, if_pos h]; exact runV_app A B _
    · rw [if_neg h, if_neg h]; rfl
theorem vis_eq (hst : ∀ s n, step s n.er = step s n) {b e : K} (hq : O.cm b e < 0) : ∀ {t : Tr K} (s : σ), srt O (ino t) → LocT O t → Prp O (ino t) → vis O step b e t s = runV step ((ino t).filter (meets O b e)) s
  | .lf, s, _, _, _ => by simp [vis, ino, runV]
  | .nd n u v, s, hs, hl, hp => by
    obtain ⟨hsu, hsv, hu, hv⟩ := srt_nd hs
    have hn : O.cm n.kb n.ke < 0 := hp n.er (by simp [ino])
    have hpu : Prp O (ino u) := fun x hx => hp x (by simp [ino, hx])
    have hpv : Prp O (ino v) := fun x hx => hp x (by simp [ino, hx])
    have iu := fun s => vis_eq hst hq (t := u) s hsu hl.2.1 hpu
    have iv := fun s => vis_eq hst hq (t := v) s hsv hl.2.2 hpv
    have hm : meets O b e n.er = decide (icmp O b e n.kb n.ke = 0) := meets_icmp (n := n.er) hq hn
    rw [vis]
    by_cases h1 : icmp O b e n.kb n.ke < 0
    · rw [if_pos h1, iu]
      have h2 := (icmp_lt hq).1 h1
      have e1 : (ino v).filter (meets O b e) = [] := filter_none fun y hy => nmeet (.inl (O.trans h2 (hv y hy)))
      have e2 : meets O b e n.er = false := nmeet (n := n.er) (.inl h2)
      simp [ino, List.filter_append, List.filter_cons, e1, e2]
    · rw [if_neg h1]
      by_cases h2 : 0 < icmp O b e n.kb n.ke
      · rw [if_pos h2]
        have h3 := (icmp_gt hq hn).1 h2
        have e2 : meets O b e n.er = false := nmeet (n := n.er) (.inr h3)
        by_cases h4 : icmp O n.kb n.km b e = 0
        · rw [if_pos h4, iu, iv]
          have : (ino (.nd n u v)).filter (meets O b e) = (ino u).filter (meets O b e) ++ (ino v).filter (meets O b e) := by simp [ino, List.filter_append, List.filter_cons, e2]
          rw [this, runV_app]
        · rw [if_neg h4]
          have hmx := (mx_spec hl (n.mx, n.km) rfl).1
          have hk : O.cm n.kb n.km < 0 := KO.lt_le hn (hmx n.er (by simp [ino]))
          have hall : ∀ x ∈ ino (.nd n u v), meets O b e x = false := fun x hx => by
            refine Decidable.byContradiction fun hc => ?_
            have hc' : meets O b e x = true := by simpa using hc
            have hc2 := of_decide_eq_true hc'
            exact h4 ((icmp_eq hk hq).2 ⟨KO.lt_le hc2.2 (hmx x hx), KO.lt_lt (KO.lt_le hn h3) hq⟩)
          rw [filter_none hall]; rfl
      · rw [if_neg h2]
        have h3 : icmp O b e n.kb n.ke = 0 := by omega
        have e2 : meets O b e n.er = true := by rw [hm]; exact decide_eq_true h3
        have : (ino (.nd n u v)).filter (meets O b e) = (ino u).filter (meets O b e) ++ n.er :: (ino v).filter (meets O b e) := by simp [ino, List.filter_append, List.filter_cons, e2]
        rw [this, runV_app, iu, iv, runV, hst]
end
/-! ### What Contains means -/
end

end Go.Proofs.Ytlnihndjepjagaa
set_option linter.unusedVariables false
set_option linter.unusedSimpArgs false
namespace Go.Proofs.Ytlnihndjepjagaa
open Go Go.RowKit Gw
open Go.Value renaming int → vI, bool → vB, slice → vS, pointer → vP, agg → vA, tuple → vT

/-! ### A state of several pieces, as one -/
theorem Sat.ungrp {l m : List SP} {g : HP} (h : Sat (grp l :: m) g) : Sat (l ++ m) g := by
  obtain ⟨h1, k, s, t, d, a, r⟩ := h
  exact Sat.append.2 ⟨h1, k, s, t, d, a, r⟩
end Go.Proofs.Ytlnihndjepjagaa
set_option linter.unusedVariables false
set_option linter.unusedSimpArgs false
namespace Go.Proofs.Ytlnihndjepjagaa
open Go Go.RowKit Gw
open Go.Value renaming int → vI, bool → vB, slice → vS, pointer → vP, agg → vA, tuple → vT

section
variable {K : Type} {O : KO K}
end

end Go.Proofs.Ytlnihndjepjagaa
set_option linter.unusedVariables false
set_option linter.unusedSimpArgs false
namespace Go.Proofs.Ytlnihndjepjagaa
open Go Go.RowKit Gw
open Go.Value renaming int → vI, bool → vB, slice → vS, pointer → vP, agg → vA, tuple → vT

section
variable {n : Nat} {e : Env} {w : World} {d : Option Nat} {ty : TypeId} {pos : String} {af : Array Edge} {g : Option (Nat × Bool)}
end

end Go.Proofs.Ytlnihndjepjagaa
set_option linter.unusedVariables false
set_option linter.unusedSimpArgs false
namespace Go.Proofs.Ytlnihndjepjagaa
open Go Go.RowKit Gw
open Go.Value renaming int → vI, bool → vB, slice → vS, pointer → vP, agg → vA, tuple → vT

end Go.Proofs.Ytlnihndjepjagaa
set_option linter.unusedVariables false
set_option linter.unusedSimpArgs false
namespace Go.Proofs.Ytlnihndjepjagaa
open Go Go.RowKit Gw
open Go.Value renaming int → vI, bool → vB, slice → vS, pointer → vP, agg → vA, tuple → vT

/-! ### Texts in order; the empty one stands behind all -/
theorem cb_refl : ∀ a : List UInt8, Lib.compareBytes a a = 0
  | [] => rfl
  | a :: xs => by simp [Lib.compareBytes, cb_refl xs]
theorem cb_flip : ∀ a b : List UInt8, Lib.compareBytes a b = - Lib.compareBytes b a
  | [], [] => rfl
  | [], _ :: _ => rfl
  | _ :: _, [] => rfl
  | a :: xs, b :: ys => by
    have ih := cb_flip xs ys
    simp only [Lib.compareBytes, UInt8.lt_iff_toNat_lt]
    split <;> split <;> first | omega | rfl
theorem cb_anti : ∀ {a b : List UInt8}, Lib.compareBytes a b = 0 → a = b
  | [], [], _ => rfl
  | [], _ :: _, h => by cases h
  | _ :: _, [], h => by cases h
  | a :: xs, b :: ys, h => by
    simp only [Lib.compareBytes, UInt8.lt_iff_toNat_lt] at h
    split at h
    · cases h
    · split at h
      · cases h
      · rw [cb_anti h, show a = b from UInt8.toNat_inj.1 (by omega)]
theorem cb_trans : ∀ {a b c : List UInt8}, Lib.compareBytes a b ≤ 0 → Lib.compareBytes b c ≤ 0 → Lib.compareBytes a c ≤ 0
  | [], _, [], _, _ => by decide
  | [], _, _ :: _, _, _ => by show (-1 : Int) ≤ 0; decide
  | _ :: _, [], _, h, _ => absurd (show (1 : Int) ≤ 0 from h) (by decide)
  | _ :: _, _ :: _, [], _, h => absurd (show (1 : Int) ≤ 0 from h) (by decide)
  | a :: xs, b :: ys, c :: zs, h1, h2 => by
    simp only [Lib.compareBytes, UInt8.lt_iff_toNat_lt] at h1 h2 ⊢
    by_cases h3 : a.toNat < c.toNat
    · rw [if_pos h3]; decide
    · rw [if_neg h3]
      split at h1
      · split at h2
        · omega
        · split at h2
          · exact absurd h2 (by decide)
          · omega
      · split at h1
        · exact absurd h1 (by decide)
        · split at h2
          · omega
          · split at h2
            · exact absurd h2 (by decide)
            · rw [if_neg (by omega)]; exact cb_trans h1 h2
def acm : List UInt8 → List UInt8 → Int
  | [], [] => 0
  | [], _ :: _ => 1
  | _ :: _, [] => -1
  | a :: xs, b :: ys => Lib.compareBytes (a :: xs) (b :: ys)
theorem acm_refl : ∀ a, acm a a = 0
  | [] => rfl
  | a :: xs => cb_refl (a :: xs)
theorem acm_flip : ∀ a b, acm a b = - acm b a
  | [], [] => rfl
  | [], _ :: _ => rfl
  | _ :: _, [] => rfl
  | a :: xs, b :: ys => cb_flip (a :: xs) (b :: ys)
theorem acm_anti : ∀ {a b}, acm a b = 0 → a = b
  | [], [], _ => rfl
  | [], _ :: _, h => by cases h
  | _ :: _, [], h => by cases h
  | _ :: _, _ :: _, h => cb_anti h
theorem acm_trans : ∀ {a b c}, acm a b ≤ 0 → acm b c ≤ 0 → acm a c ≤ 0
  | [], [], _, _, h => h
  | [], _ :: _, _, h, _ => absurd (show (1 : Int) ≤ 0 from h) (by decide)
  | _ :: _, [], [], h, _ => h
  | _ :: _, [], _ :: _, _, h => absurd (show (1 : Int) ≤ 0 from h) (by decide)
  | _ :: _, _ :: _, [], _, _ => by show (-1 : Int) ≤ 0; decide
  | _ :: _, _ :: _, _ :: _, h1, h2 => cb_trans h1 h2
theorem acm_ne {a b : List UInt8} (ha : a ≠ []) (hb : b ≠ []) : acm a b = Lib.compareBytes a b := by
  cases a with
  | nil => exact absurd rfl ha
  | cons _ _ => cases b with
    | nil => exact absurd rfl hb
    | cons _ _ => rfl
theorem acm_l {b : List UInt8} (hb : b ≠ []) : acm [] b = 1 := by
  cases b with
  | nil => exact absurd rfl hb
  | cons _ _ => rfl
theorem acm_r {b : List UInt8} (hb : b ≠ []) : acm b [] = -1 := by
  cases b with
  | nil => exact absurd rfl hb
  | cons _ _ => rfl
theorem u8s_len (ns : List Int) : (u8s ns).length = ns.length := by simp [u8s]
theorem u8s_nil {ns : List Int} (h : ns.length = 0) : u8s ns = [] := List.eq_nil_of_length_eq_zero (by rw [u8s_len, h])
theorem u8s_nnil {ns : List Int} (h : ns.length ≠ 0) : u8s ns ≠ [] := fun e => h (by rw [← u8s_len, e]; rfl)
/-! ### The model's order of texts -/
theorem empty_iff {u : ByteArray} : (u.toList == (ByteArray.mk #[]).toList) = true ↔ u.size = 0 := by
  rw [beq_iff_eq, toList_data, toList_data]
  constructor
  · intro h
    have : u.data.toList.length = 0 := by rw [h]; rfl
    simpa using this
  · intro h
    exact List.eq_nil_of_length_eq_zero (by simpa using h)
theorem bl_lt : ∀ {a b : List UInt8}, Op.bytesLess a b = true ↔ Lib.compareBytes a b < 0
  | [], [] => by simp [Op.bytesLess, Lib.compareBytes]
  | [], _ :: _ => by simp [Op.bytesLess, Lib.compareBytes]
  | _ :: _, [] => by simp [Op.bytesLess, Lib.compareBytes]
  | a :: xs, b :: ys => by
    have ih := @bl_lt xs ys
    simp only [Op.bytesLess, Lib.compareBytes, Bool.or_eq_true, Bool.and_eq_true, decide_eq_true_eq, beq_iff_eq, UInt8.lt_iff_toNat_lt]
    have e : a = b ↔ a.toNat = b.toNat := UInt8.toNat_inj.symm
    by_cases h1 : a.toNat < b.toNat
    · simp [h1]
    · rw [if_neg h1]
      by_cases h2 : b.toNat < a.toNat
      · rw [if_pos h2]
        have : a ≠ b := fun h => by have := e.1 h; omega
        simp [h1, this]
      · rw [if_neg h2]
        have : a = b := e.2 (by omega)
        simp [this, ih]


set_option maxHeartbeats 1600000 in
theorem bCmp (R : HP) (x y : Value) (A B : List Int) (hx : RS R 1 x (List.length A) (bytesV A)) (hy : RS R 1 y (List.length B) (bytesV B)) :
    Tri Try.prog 137 #[x, (Value.iface 168 y)] R [] (fun v__ post__ => v__ = (vI .i64 (acm (u8s A) (u8s B))) ∧ post__ = []) := by
 refine Tri.into (n := 20) (al := [x, (Value.iface 168 y)]) Try.func137 rfl Try.ntmps137 rfl rfl fun w F H => ?_
 refine C_seq (fun K1_ hK1_ => C_reg ?_)
 refine sv (v := (vI .i64 0)) (x_assign rfl) ?_
 refine wpList_nil (X_then (hK1_ _ _ ?_))
 clear hK1_
 refine C_seq (fun K2_ hK2_ => C_reg ?_)
 refine sv (v := (Value.iface 168 y)) (x_move rfl) ?_
 refine sv (v := y) (by kernel_rfl) ?_
 refine sv (v := y) (x_assign rfl) ?_
 refine wpList_nil (X_then (hK2_ _ _ ?_))
 clear hK2_
 refine C_seq (fun K3_ hK3_ => ?_)
 refine C_seq (fun K4_ hK4_ => C_reg ?_)
 refine sv (v := x) (x_move rfl) ?_
 refine sv (v := (vI .i64 ((List.length A) : Int))) (x_lenRS rfl hx Try.underlying168) ?_
 refine sv (v := (vB (decide (((List.length A) : Int) = 0)))) (x_bin rfl rfl rfl) ?_
 refine wpList_nil (X_then (hK4_ _ _ ?_))
 clear hK4_
 refine C_cond (b := decide (((List.length A) : Int) = 0)) rfl (fun c5_t => ?_) (fun c5_f => ?_)
 ·have c5_tp : ((List.length A) : Int) = 0 := of_decide_eq_true c5_t
  refine C_seq (fun K6_ hK6_ => ?_)
  refine C_seq (fun K7_ hK7_ => C_reg ?_)
  refine sv (v := y) (x_move rfl) ?_
  refine sv (v := (vI .i64 ((List.length B) : Int))) (x_lenRS rfl hy Try.underlying168) ?_
  refine sv (v := (vB (decide (((List.length B) : Int) = 0)))) (x_bin rfl rfl rfl) ?_
  refine wpList_nil (X_then (hK7_ _ _ ?_))
  clear hK7_
  refine C_cond (b := decide (((List.length B) : Int) = 0)) rfl (fun c8_t => ?_) (fun c8_f => ?_)
  ·have c8_tp : ((List.length B) : Int) = 0 := of_decide_eq_true c8_t
   refine C_seq (fun K9_ hK9_ => C_reg ?_)
   refine sv (v := (vI .i64 0)) (x_assign rfl) ?_
   refine wpList_nil (X_then (hK9_ _ _ ?_))
   clear hK9_
   refine C_ret (X_thenR (X_thenR ?_))
   refine R_any (v := (vI .i64 0)) (run_results1 rfl rfl) ?_
   exact ⟨_, _, rfl, ⟨(congrArg (vI .i64) ((by rw [u8s_nil (ns := A) (by omega), u8s_nil (ns := B) (by omega)]; rfl) : 0 = acm (u8s A) (u8s B))), rfl⟩, (Same.refl w), H⟩
  ·have c8_fp : ¬ (((List.length B) : Int) = 0) := of_decide_eq_false c8_f
   refine C_skip (X_then (hK6_ _ _ ?_))
   clear hK6_
   refine C_seq (fun K10_ hK10_ => C_reg ?_)
   refine sv (v := (vI .i64 1)) (x_assign rfl) ?_
   refine wpList_nil (X_then (hK10_ _ _ ?_))
   clear hK10_
   refine C_ret (X_thenR ?_)
   refine R_any (v := (vI .i64 1)) (run_results1 rfl rfl) ?_
   exact ⟨_, _, rfl, ⟨(congrArg (vI .i64) ((by rw [u8s_nil (ns := A) (by omega), acm_l (u8s_nnil (by omega))]) : 1 = acm (u8s A) (u8s B))), rfl⟩, (Same.refl w), H⟩
 ·have c5_fp : ¬ (((List.length A) : Int) = 0) := of_decide_eq_false c5_f
  refine C_skip (X_then (hK3_ _ _ ?_))
  clear hK3_
  refine C_seq (fun K11_ hK11_ => ?_)
  refine C_seq (fun K12_ hK12_ => C_reg ?_)
  refine sv (v := y) (x_move rfl) ?_
  refine sv (v := (vI .i64 ((List.length B) : Int))) (x_lenRS rfl hy Try.underlying168) ?_
  refine sv (v := (vB (decide (((List.length B) : Int) = 0)))) (x_bin rfl rfl rfl) ?_
  refine wpList_nil (X_then (hK12_ _ _ ?_))
  clear hK12_
  refine C_cond (b := decide (((List.length B) : Int) = 0)) rfl (fun c13_t => ?_) (fun c13_f => ?_)
  ·have c13_tp : ((List.length B) : Int) = 0 := of_decide_eq_true c13_t
   refine C_seq (fun K14_ hK14_ => C_reg ?_)
   refine sv (v := (vI .i64 (-1))) (x_assign rfl) ?_
   refine wpList_nil (X_then (hK14_ _ _ ?_))
   clear hK14_
   refine C_ret (X_thenR ?_)
   refine R_any (v := (vI .i64 (-1))) (run_results1 rfl rfl) ?_
   exact ⟨_, _, rfl, ⟨(congrArg (vI .i64) ((by rw [u8s_nil (ns := B) (by omega), acm_r (u8s_nnil (by omega))]) : -1 = acm (u8s A) (u8s B))), rfl⟩, (Same.refl w), H⟩
  ·have c13_fp : ¬ (((List.length B) : Int) = 0) := of_decide_eq_false c13_f
   refine C_skip (X_then (hK11_ _ _ ?_))
   clear hK11_
   refine C_seq (fun K15_ hK15_ => C_reg ?_)
   refine sv (v := x) (x_move rfl) ?_
   refine sv (v := y) (x_move rfl) ?_
   refine S_list (T_callW (al := [x, y]) rfl rfl cb155 (Calls.into (n := 8) (al := [x, y]) Try.func155 rfl Try.ntmps155 rfl rfl ?_))
   refine C_seq (fun K16_ hK16_ => C_reg ?_)
   refine sv (v := (vI .i64 0)) (x_assign rfl) ?_
   refine wpList_nil (X_then (hK16_ _ _ ?_))
   clear hK16_
   refine C_seq (fun K17_ hK17_ => C_reg ?_)
   refine sv (v := x) (x_move rfl) ?_
   refine sv (v := y) (x_move rfl) ?_
   refine S_list (T_bcmp (fn := Try.f169) (u := x) (v := y) (xs := A) (ys := B) Try.func169 (by kernel_rfl) rfl (by kernel_rfl) (by kernel_rfl) rfl rfl ((hx : RS R 1 x (List.length A) (bytesV A)).mono (Holds.ro_at H 0 rfl)) ((hy : RS R 1 y (List.length B) (bytesV B)).mono (Holds.ro_at H 0 rfl)) ?_)
   refine sv (v := (vI .i64 (Lib.compareBytes (u8s A) (u8s B)))) (x_assign rfl) ?_
   refine wpList_nil (X_then (hK17_ _ _ ?_))
   clear hK17_
   refine C_ret ?_
   refine R_any (v := (vI .i64 (Lib.compareBytes (u8s A) (u8s B)))) (run_results1 rfl rfl) ⟨_, rfl, ?_⟩
   refine sv (v := (vI .i64 (Lib.compareBytes (u8s A) (u8s B)))) (x_assign rfl) ?_
   refine wpList_nil (X_then (hK15_ _ _ ?_))
   clear hK15_
   refine C_ret ?_
   refine R_any (v := (vI .i64 (Lib.compareBytes (u8s A) (u8s B)))) (run_results1 rfl rfl) ?_
   exact ⟨_, _, rfl, ⟨(congrArg (vI .i64) ((acm_ne (u8s_nnil (by omega)) (u8s_nnil (by omega))).symm : Lib.compareBytes (u8s A) (u8s B) = acm (u8s A) (u8s B))), rfl⟩, (Same.refl w), H⟩

end Go.Proofs.Ytlnihndjepjagaa
set_option linter.unusedVariables false
set_option linter.unusedSimpArgs false
namespace Go.Proofs.Ytlnihndjepjagaa
open Go Go.RowKit Gw
open Go.Value renaming int → vI, bool → vB, slice → vS, pointer → vP, agg → vA, tuple → vT

/-! ### Ends of any order -/
inductive EK where
  | t (x : List UInt8)
  | n (x : Int)
def ecm (ord : Int) : EK → EK → Int
  | .t x, .t y => if ord = 0 then Lib.compareBytes x y else acm x y
  | .n x, .n y => if x < y then -1 else if y < x then 1 else 0
  | .t _, .n _ => -1
  | .n _, .t _ => 1
theorem ecm_refl (ord : Int) : ∀ a, ecm ord a a = 0
  | .t x => by simp only [ecm]; split <;> first | exact cb_refl x | exact acm_refl x
  | .n x => by simp only [ecm]; split <;> first | omega | (split <;> omega)
theorem ecm_flip (ord : Int) : ∀ a b, ecm ord a b = - ecm ord b a
  | .t x, .t y => by simp only [ecm]; split <;> first | exact cb_flip x y | exact acm_flip x y
  | .n x, .n y => by simp only [ecm]; split <;> split <;> (try split) <;> first | rfl | omega
  | .t _, .n _ => rfl
  | .n _, .t _ => rfl
theorem ecm_anti (ord : Int) : ∀ {a b}, ecm ord a b = 0 → a = b
  | .t x, .t y, h => by
    simp only [ecm] at h
    split at h
    · rw [cb_anti h]
    · rw [acm_anti h]
  | .n x, .n y, h => by
    simp only [ecm] at h
    split at h
    · omega
    · split at h
      · omega
      · rw [show x = y by omega]
  | .t _, .n _, h => by cases h
  | .n _, .t _, h => by cases h
theorem ecm_trans (ord : Int) : ∀ {a b c}, ecm ord a b ≤ 0 → ecm ord b c ≤ 0 → ecm ord a c ≤ 0
  | .t x, .t y, .t z, h1, h2 => by
    simp only [ecm] at *
    split at h1
    · rename_i h0; rw [if_pos h0] at *; exact cb_trans h1 h2
    · rename_i h0; rw [if_neg h0] at *; exact acm_trans h1 h2
  | .n x, .n y, .n z, h1, h2 => by
    simp only [ecm] at *
    split at h1
    · split at h2
      · rw [if_pos (by omega)]; decide
      · split at h2
        · omega
        · rw [if_pos (by omega)]; decide
    · split at h1
      · omega
      · split at h2
        · rw [if_pos (by omega)]; decide
        · split at h2
          · omega
          · rw [if_neg (by omega), if_neg (by omega)]; decide
  | .t _, _, .n _, _, _ => by show (-1 : Int) ≤ 0; decide
  | .t _, .n _, .t _, _, h => absurd (show (1 : Int) ≤ 0 from h) (by decide)
  | .n _, .t _, _, h, _ => absurd (show (1 : Int) ≤ 0 from h) (by decide)
  | .n _, .n _, .t _, _, h => absurd (show (1 : Int) ≤ 0 from h) (by decide)
def ek (ord : Int) (s : ByteArray) (a : Int) : EK := if ord = 3 then .n a else .t s.data.toList
/-! ### How the reference compares -/
theorem cb_val (a b : ByteArray) : Lib.compareBytes a.data.toList b.data.toList = if Op.bytesLess a.toList b.toList = true then -1 else if (Op.bytesLess a.toList b.toList || a.toList == b.toList) = true then 0 else 1 := by
  have h1 := @bl_lt a.data.toList b.data.toList
  have h2 := @bl_lt b.data.toList a.data.toList
  have h3 := cb_flip a.data.toList b.data.toList
  have hr : ∀ x y : List UInt8, Lib.compareBytes x y = -1 ∨ Lib.compareBytes x y = 0 ∨ Lib.compareBytes x y = 1 := by
    intro x
    induction x with
    | nil => intro y; cases y <;> simp [Lib.compareBytes]
    | cons c x ih =>
      intro y
      cases y with
      | nil => simp [Lib.compareBytes]
      | cons d y =>
        simp only [Lib.compareBytes]
        split
        · simp
        · split
          · simp
          · exact ih y
  rw [toList_data a, toList_data b]
  have hr' := hr a.data.toList b.data.toList
  by_cases hl : Op.bytesLess a.data.toList b.data.toList = true
  · rw [if_pos hl]; have := h1.1 hl; omega
  · rw [if_neg hl]
    have hl' : ¬ Lib.compareBytes a.data.toList b.data.toList < 0 := fun h => hl (h1.2 h)
    by_cases he : a.data.toList = b.data.toList
    · rw [if_pos (by simp [he]), he, cb_refl]
    · have : ¬ (Op.bytesLess a.data.toList b.data.toList || a.data.toList == b.data.toList) = true := by
        rw [Bool.or_eq_true, beq_iff_eq]
        exact fun h => h.elim hl he
      rw [if_neg this]
      have : Lib.compareBytes a.data.toList b.data.toList ≠ 0 := fun h => he (cb_anti h)
      omega
theorem cb_c1 {a b : ByteArray} (h : Op.bytesLess a.toList b.toList = true) : Lib.compareBytes a.data.toList b.data.toList = -1 := by rw [cb_val, if_pos h]
theorem cb_c2 {a b : ByteArray} (h : Op.bytesLess a.toList b.toList = false) (h2 : (!(Op.bytesLess a.toList b.toList || a.toList == b.toList)) = true) : Lib.compareBytes a.data.toList b.data.toList = 1 := by
  rw [cb_val, if_neg (by rw [h]; decide), if_neg (by rw [Bool.not_eq_true'] at h2; rw [h2]; decide)]
theorem cb_c3 {a b : ByteArray} (h : Op.bytesLess a.toList b.toList = false) (h2 : (!(Op.bytesLess a.toList b.toList || a.toList == b.toList)) = false) : Lib.compareBytes a.data.toList b.data.toList = 0 := by
  rw [cb_val, if_neg (by rw [h]; decide), if_pos (by rw [Bool.not_eq_false'] at h2; exact h2)]
theorem nil_size {a : ByteArray} : a.data.toList = [] ↔ a.size = 0 := by
  constructor
  · intro h
    have : a.data.toList.length = 0 := by rw [h]; rfl
    simpa using this
  · intro h
    exact List.eq_nil_of_length_eq_zero (by simpa using h)
theorem acm_val (a b : ByteArray) : acm a.data.toList b.data.toList = if a.size = 0 then (if b.size = 0 then 0 else 1) else if b.size = 0 then -1 else Lib.compareBytes a.data.toList b.data.toList := by
  by_cases h1 : a.size = 0
  · rw [if_pos h1, nil_size.2 h1]
    by_cases h2 : b.size = 0
    · rw [if_pos h2, nil_size.2 h2]; rfl
    · rw [if_neg h2, acm_l fun h => h2 (nil_size.1 h)]
  · rw [if_neg h1]
    by_cases h2 : b.size = 0
    · rw [if_pos h2, nil_size.2 h2, acm_r fun h => h1 (nil_size.1 h)]
    · rw [if_neg h2, acm_ne (fun h => h1 (nil_size.1 h)) (fun h => h2 (nil_size.1 h))]
/-- As the reference reckons it: what is less, what is more. -/
def endsL (ord : Int) (s t : ByteArray) (a b : Int) : Bool :=
  if ord = 3 then decide (a < b) else if (decide (ord ≠ 0) && !((s.toList == (ByteArray.mk #[]).toList) == (t.toList == (ByteArray.mk #[]).toList))) = true then (t.toList == (ByteArray.mk #[]).toList) else Op.bytesLess s.toList t.toList
def endsM (ord : Int) (s t : ByteArray) (a b : Int) : Bool :=
  if ord = 3 then decide (b < a) else if (decide (ord ≠ 0) && !((s.toList == (ByteArray.mk #[]).toList) == (t.toList == (ByteArray.mk #[]).toList))) = true then (s.toList == (ByteArray.mk #[]).toList) else !(Op.bytesLess s.toList t.toList || s.toList == t.toList)
theorem ecm_ends (ord : Int) (s t : ByteArray) (a b : Int) : ecm ord (ek ord s a) (ek ord t b) = if endsL ord s t a b = true then -1 else if endsM ord s t a b = true then 1 else 0 := by
  unfold ek endsL endsM
  by_cases h3 : ord = 3
  · rw [if_pos h3, if_pos h3, if_pos h3, if_pos h3]
    simp only [ecm, decide_eq_true_eq]
  · rw [if_neg h3, if_neg h3, if_neg h3, if_neg h3]
    simp only [ecm]
    have e1 := @empty_iff s
    have e2 := @empty_iff t
    by_cases h0 : ord = 0
    · rw [if_pos h0, cb_val]
      have : (decide (ord ≠ 0) && !((s.toList == (ByteArray.mk #[]).toList) == (t.toList == (ByteArray.mk #[]).toList))) = false := by simp [h0]
      rw [this]
      simp only [Bool.false_eq_true, if_false]
      by_cases hl : Op.bytesLess s.toList t.toList = true
      · rw [if_pos hl, if_pos hl]
      · rw [if_neg hl, if_neg hl]
        cases (Op.bytesLess s.toList t.toList || s.toList == t.toList) <;> simp
    · rw [if_neg h0, acm_val, cb_val]
      cases hs : (s.toList == (ByteArray.mk #[]).toList) <;> cases ht : (t.toList == (ByteArray.mk #[]).toList)
      · have s0 : s.size ≠ 0 := fun h => by rw [e1.2 h] at hs; cases hs
        have t0 : t.size ≠ 0 := fun h => by rw [e2.2 h] at ht; cases ht
        rw [if_neg s0, if_neg t0]
        simp only [beq_self_eq_true, Bool.not_true, Bool.and_false, Bool.false_eq_true, if_false]
        by_cases hl : Op.bytesLess s.toList t.toList = true
        · rw [if_pos hl, if_pos hl]
        · rw [if_neg hl, if_neg hl]
          cases (Op.bytesLess s.toList t.toList || s.toList == t.toList) <;> simp
      · have s0 : s.size ≠ 0 := fun h => by rw [e1.2 h] at hs; cases hs
        rw [if_neg s0, if_pos (e2.1 ht)]
        simp [h0]
      · have t0 : t.size ≠ 0 := fun h => by rw [e2.2 h] at ht; cases ht
        rw [if_pos (e1.1 hs), if_neg t0]
        simp [h0]
      · rw [if_pos (e1.1 hs), if_pos (e2.1 ht)]
        have hse := nil_size.2 (e1.1 hs)
        have hte := nil_size.2 (e2.1 ht)
        simp [toList_data, hse, hte, Op.bytesLess]


set_option maxHeartbeats 1600000 in
theorem enCmp0 (R : HP) (s t : ByteArray) :
    Tri Try.prog 136 #[(Value.string s), (Value.iface 167 (Value.string t))] R [] (fun v__ post__ => v__ = (vI .i64 (ecm 0 (.t s.data.toList) (.t t.data.toList))) ∧ post__ = []) := by
 refine Tri.into (n := 14) (al := [(Value.string s), (Value.iface 167 (Value.string t))]) Try.func136 rfl Try.ntmps136 rfl rfl fun w F H => ?_
 refine C_seq (fun K1_ hK1_ => C_reg ?_)
 refine sv (v := (vI .i64 0)) (x_assign rfl) ?_
 refine wpList_nil (X_then (hK1_ _ _ ?_))
 clear hK1_
 refine C_seq (fun K2_ hK2_ => C_reg ?_)
 refine sv (v := (Value.iface 167 (Value.string t))) (x_move rfl) ?_
 refine sv (v := (Value.string t)) (by kernel_rfl) ?_
 refine sv (v := (Value.string t)) (x_assign rfl) ?_
 refine wpList_nil (X_then (hK2_ _ _ ?_))
 clear hK2_
 refine C_seq (fun K3_ hK3_ => ?_)
 refine C_seq (fun K4_ hK4_ => C_reg ?_)
 refine sv (v := (Value.string s)) (x_move rfl) ?_
 refine sv (v := (Value.string t)) (x_move rfl) ?_
 refine sv (v := (vB (Op.bytesLess s.toList t.toList))) (x_str rfl rfl rfl (by decide)) ?_
 refine wpList_nil (X_then (hK4_ _ _ ?_))
 clear hK4_
 refine C_cond (b := Op.bytesLess s.toList t.toList) rfl (fun c5_t => ?_) (fun c5_f => ?_)
 ·skip
  refine C_seq (fun K6_ hK6_ => C_reg ?_)
  refine sv (v := (vI .i64 (-1))) (x_assign rfl) ?_
  refine wpList_nil (X_then (hK6_ _ _ ?_))
  clear hK6_
  refine C_ret (X_thenR ?_)
  refine R_any (v := (vI .i64 (-1))) (run_results1 rfl rfl) ?_
  exact ⟨_, _, rfl, ⟨(congrArg (vI .i64) ((by simp only [ecm, if_true]; exact (cb_c1 c5_t).symm) : -1 = ecm 0 (.t s.data.toList) (.t t.data.toList))), rfl⟩, (Same.refl w), H⟩
 ·skip
  refine C_skip (X_then (hK3_ _ _ ?_))
  clear hK3_
  refine C_seq (fun K7_ hK7_ => ?_)
  refine C_seq (fun K8_ hK8_ => C_reg ?_)
  refine sv (v := (Value.string s)) (x_move rfl) ?_
  refine sv (v := (Value.string t)) (x_move rfl) ?_
  refine sv (v := (vB (!(Op.bytesLess s.toList t.toList || s.toList == t.toList)))) (x_str rfl rfl rfl (by decide)) ?_
  refine wpList_nil (X_then (hK8_ _ _ ?_))
  clear hK8_
  refine C_cond (b := !(Op.bytesLess s.toList t.toList || s.toList == t.toList)) rfl (fun c9_t => ?_) (fun c9_f => ?_)
  ·skip
   refine C_seq (fun K10_ hK10_ => C_reg ?_)
   refine sv (v := (vI .i64 1)) (x_assign rfl) ?_
   refine wpList_nil (X_then (hK10_ _ _ ?_))
   clear hK10_
   refine C_ret (X_thenR ?_)
   refine R_any (v := (vI .i64 1)) (run_results1 rfl rfl) ?_
   exact ⟨_, _, rfl, ⟨(congrArg (vI .i64) ((by simp only [ecm, if_true]; exact (cb_c2 c5_f c9_t).symm) : 1 = ecm 0 (.t s.data.toList) (.t t.data.toList))), rfl⟩, (Same.refl w), H⟩
  ·skip
   refine C_skip (X_then (hK7_ _ _ ?_))
   clear hK7_
   refine C_seq (fun K11_ hK11_ => C_reg ?_)
   refine sv (v := (vI .i64 0)) (x_assign rfl) ?_
   refine wpList_nil (X_then (hK11_ _ _ ?_))
   clear hK11_
   refine C_ret ?_
   refine R_any (v := (vI .i64 0)) (run_results1 rfl rfl) ?_
   exact ⟨_, _, rfl, ⟨(congrArg (vI .i64) ((by simp only [ecm, if_true]; exact (cb_c3 c5_f c9_f).symm) : 0 = ecm 0 (.t s.data.toList) (.t t.data.toList))), rfl⟩, (Same.refl w), H⟩

set_option maxHeartbeats 1600000 in
theorem enCmp1 (R : HP) (s t : ByteArray) :
    Tri Try.prog 135 #[(Value.string s), (Value.iface 166 (Value.string t))] R [] (fun v__ post__ => v__ = (vI .i64 (ecm 1 (.t s.data.toList) (.t t.data.toList))) ∧ post__ = []) := by
 refine Tri.into (n := 23) (al := [(Value.string s), (Value.iface 166 (Value.string t))]) Try.func135 rfl Try.ntmps135 rfl rfl fun w F H => ?_
 refine C_seq (fun K1_ hK1_ => C_reg ?_)
 refine sv (v := (vI .i64 0)) (x_assign rfl) ?_
 refine wpList_nil (X_then (hK1_ _ _ ?_))
 clear hK1_
 refine C_seq (fun K2_ hK2_ => C_reg ?_)
 refine sv (v := (Value.iface 166 (Value.string t))) (x_move rfl) ?_
 refine sv (v := (Value.string t)) (by kernel_rfl) ?_
 refine sv (v := (Value.string t)) (x_assign rfl) ?_
 refine wpList_nil (X_then (hK2_ _ _ ?_))
 clear hK2_
 refine C_seq (fun K3_ hK3_ => ?_)
 refine C_seq (fun K4_ hK4_ => C_reg ?_)
 refine sv (v := (Value.string s)) (x_move rfl) ?_
 refine sv (v := (vI .i64 (s.size : Int))) (x_lenT rfl Try.underlying166) ?_
 refine sv (v := (vB (decide ((s.size : Int) = 0)))) (x_bin rfl rfl rfl) ?_
 refine wpList_nil (X_then (hK4_ _ _ ?_))
 clear hK4_
 refine C_cond (b := decide ((s.size : Int) = 0)) rfl (fun c5_t => ?_) (fun c5_f => ?_)
 ·have c5_tp : (s.size : Int) = 0 := of_decide_eq_true c5_t
  refine C_seq (fun K6_ hK6_ => ?_)
  refine C_seq (fun K7_ hK7_ => C_reg ?_)
  refine sv (v := (Value.string t)) (x_move rfl) ?_
  refine sv (v := (vI .i64 (t.size : Int))) (x_lenT rfl Try.underlying166) ?_
  refine sv (v := (vB (decide ((t.size : Int) = 0)))) (x_bin rfl rfl rfl) ?_
  refine wpList_nil (X_then (hK7_ _ _ ?_))
  clear hK7_
  refine C_cond (b := decide ((t.size : Int) = 0)) rfl (fun c8_t => ?_) (fun c8_f => ?_)
  ·have c8_tp : (t.size : Int) = 0 := of_decide_eq_true c8_t
   refine C_seq (fun K9_ hK9_ => C_reg ?_)
   refine sv (v := (vI .i64 0)) (x_assign rfl) ?_
   refine wpList_nil (X_then (hK9_ _ _ ?_))
   clear hK9_
   refine C_ret (X_thenR (X_thenR ?_))
   refine R_any (v := (vI .i64 0)) (run_results1 rfl rfl) ?_
   exact ⟨_, _, rfl, ⟨(congrArg (vI .i64) ((by simp only [ecm]; rw [if_neg (by decide), acm_val]; first | (rw [if_pos (by omega), if_pos (by omega)]; done) | (rw [if_pos (by omega), if_neg (by omega)]; done) | (rw [if_neg (by omega), if_pos (by omega)]; done)) : 0 = ecm 1 (.t s.data.toList) (.t t.data.toList))), rfl⟩, (Same.refl w), H⟩
  ·have c8_fp : ¬ ((t.size : Int) = 0) := of_decide_eq_false c8_f
   refine C_skip (X_then (hK6_ _ _ ?_))
   clear hK6_
   refine C_seq (fun K10_ hK10_ => C_reg ?_)
   refine sv (v := (vI .i64 1)) (x_assign rfl) ?_
   refine wpList_nil (X_then (hK10_ _ _ ?_))
   clear hK10_
   refine C_ret (X_thenR ?_)
   refine R_any (v := (vI .i64 1)) (run_results1 rfl rfl) ?_
   exact ⟨_, _, rfl, ⟨(congrArg (vI .i64) ((by simp only [ecm]; rw [if_neg (by decide), acm_val]; first | (rw [if_pos (by omega), if_pos (by omega)]; done) | (rw [if_pos (by omega), if_neg (by omega)]; done) | (rw [if_neg (by omega), if_pos (by omega)]; done)) : 1 = ecm 1 (.t s.data.toList) (.t t.data.toList))), rfl⟩, (Same.refl w), H⟩
 ·have c5_fp : ¬ ((s.size : Int) = 0) := of_decide_eq_false c5_f
  refine C_skip (X_then (hK3_ _ _ ?_))
  clear hK3_
  refine C_seq (fun K11_ hK11_ => ?_)
  refine C_seq (fun K12_ hK12_ => C_reg ?_)
  refine sv (v := (Value.string t)) (x_move rfl) ?_
  refine sv (v := (vI .i64 (t.size : Int))) (x_lenT rfl Try.underlying166) ?_
  refine sv (v := (vB (decide ((t.size : Int) = 0)))) (x_bin rfl rfl rfl) ?_
  refine wpList_nil (X_then (hK12_ _ _ ?_))
  clear hK12_
  refine C_cond (b := decide ((t.size : Int) = 0)) rfl (fun c13_t => ?_) (fun c13_f => ?_)
  ·have c13_tp : (t.size : Int) = 0 := of_decide_eq_true c13_t
   refine C_seq (fun K14_ hK14_ => C_reg ?_)
   refine sv (v := (vI .i64 (-1))) (x_assign rfl) ?_
   refine wpList_nil (X_then (hK14_ _ _ ?_))
   clear hK14_
   refine C_ret (X_thenR ?_)
   refine R_any (v := (vI .i64 (-1))) (run_results1 rfl rfl) ?_
   exact ⟨_, _, rfl, ⟨(congrArg (vI .i64) ((by simp only [ecm]; rw [if_neg (by decide), acm_val]; first | (rw [if_pos (by omega), if_pos (by omega)]; done) | (rw [if_pos (by omega), if_neg (by omega)]; done) | (rw [if_neg (by omega), if_pos (by omega)]; done)) : -1 = ecm 1 (.t s.data.toList) (.t t.data.toList))), rfl⟩, (Same.refl w), H⟩
  ·have c13_fp : ¬ ((t.size : Int) = 0) := of_decide_eq_false c13_f
   refine C_skip (X_then (hK11_ _ _ ?_))
   clear hK11_
   refine C_seq (fun K15_ hK15_ => ?_)
   refine C_seq (fun K16_ hK16_ => C_reg ?_)
   refine sv (v := (Value.string s)) (x_move rfl) ?_
   refine sv (v := (Value.string t)) (x_move rfl) ?_
   refine sv (v := (vB (Op.bytesLess s.toList t.toList))) (x_str rfl rfl rfl (by decide)) ?_
   refine wpList_nil (X_then (hK16_ _ _ ?_))
   clear hK16_
   refine C_cond (b := Op.bytesLess s.toList t.toList) rfl (fun c17_t => ?_) (fun c17_f => ?_)
   ·skip
    refine C_seq (fun K18_ hK18_ => C_reg ?_)
    refine sv (v := (vI .i64 (-1))) (x_assign rfl) ?_
    refine wpList_nil (X_then (hK18_ _ _ ?_))
    clear hK18_
    refine C_ret (X_thenR ?_)
    refine R_any (v := (vI .i64 (-1))) (run_results1 rfl rfl) ?_
    exact ⟨_, _, rfl, ⟨(congrArg (vI .i64) ((by simp only [ecm]; rw [if_neg (by decide), acm_val]; rw [if_neg (by omega), if_neg (by omega)]; exact (cb_c1 c17_t).symm) : -1 = ecm 1 (.t s.data.toList) (.t t.data.toList))), rfl⟩, (Same.refl w), H⟩
   ·skip
    refine C_skip (X_then (hK15_ _ _ ?_))
    clear hK15_
    refine C_seq (fun K19_ hK19_ => ?_)
    refine C_seq (fun K20_ hK20_ => C_reg ?_)
    refine sv (v := (Value.string s)) (x_move rfl) ?_
    refine sv (v := (Value.string t)) (x_move rfl) ?_
    refine sv (v := (vB (!(Op.bytesLess s.toList t.toList || s.toList == t.toList)))) (x_str rfl rfl rfl (by decide)) ?_
    refine wpList_nil (X_then (hK20_ _ _ ?_))
    clear hK20_
    refine C_cond (b := !(Op.bytesLess s.toList t.toList || s.toList == t.toList)) rfl (fun c21_t => ?_) (fun c21_f => ?_)
    ·skip
     refine C_seq (fun K22_ hK22_ => C_reg ?_)
     refine sv (v := (vI .i64 1)) (x_assign rfl) ?_
     refine wpList_nil (X_then (hK22_ _ _ ?_))
     clear hK22_
     refine C_ret (X_thenR ?_)
     refine R_any (v := (vI .i64 1)) (run_results1 rfl rfl) ?_
     exact ⟨_, _, rfl, ⟨(congrArg (vI .i64) ((by simp only [ecm]; rw [if_neg (by decide), acm_val]; rw [if_neg (by omega), if_neg (by omega)]; exact (cb_c2 c17_f c21_t).symm) : 1 = ecm 1 (.t s.data.toList) (.t t.data.toList))), rfl⟩, (Same.refl w), H⟩
    ·skip
     refine C_skip (X_then (hK19_ _ _ ?_))
     clear hK19_
     refine C_seq (fun K23_ hK23_ => C_reg ?_)
     refine sv (v := (vI .i64 0)) (x_assign rfl) ?_
     refine wpList_nil (X_then (hK23_ _ _ ?_))
     clear hK23_
     refine C_ret ?_
     refine R_any (v := (vI .i64 0)) (run_results1 rfl rfl) ?_
     exact ⟨_, _, rfl, ⟨(congrArg (vI .i64) ((by simp only [ecm]; rw [if_neg (by decide), acm_val]; rw [if_neg (by omega), if_neg (by omega)]; exact (cb_c3 c17_f c21_f).symm) : 0 = ecm 1 (.t s.data.toList) (.t t.data.toList))), rfl⟩, (Same.refl w), H⟩

set_option maxHeartbeats 1600000 in
theorem enCmp3 (R : HP) (a b : Int) (ha : -4611686018427387903 ≤ a ∧ a ≤ 4611686018427387903) (hb : -4611686018427387903 ≤ b ∧ b ≤ 4611686018427387903) :
    Tri Try.prog 138 #[(vI .i64 a), (Value.iface 169 (vI .i64 b))] R [] (fun v__ post__ => v__ = (vI .i64 (ecm 3 (.n a) (.n b))) ∧ post__ = []) := by
 refine Tri.into (n := 16) (al := [(vI .i64 a), (Value.iface 169 (vI .i64 b))]) Try.func138 rfl Try.ntmps138 rfl rfl fun w F H => ?_
 refine C_seq (fun K1_ hK1_ => C_reg ?_)
 refine sv (v := (vI .i64 0)) (x_assign rfl) ?_
 refine wpList_nil (X_then (hK1_ _ _ ?_))
 clear hK1_
 refine C_seq (fun K2_ hK2_ => C_reg ?_)
 refine sv (v := (Value.iface 169 (vI .i64 b))) (x_move rfl) ?_
 refine sv (v := (vI .i64 b)) (by kernel_rfl) ?_
 refine sv (v := (vI .i64 b)) (x_assign rfl) ?_
 refine wpList_nil (X_then (hK2_ _ _ ?_))
 clear hK2_
 refine C_seq (fun K3_ hK3_ => C_reg ?_)
 refine sv (v := (vI .i64 a)) (x_move rfl) ?_
 refine sv (v := (vI .i64 b)) (x_move rfl) ?_
 refine sv (v := (vI .i64 (a - b))) (x_bin rfl rfl (ib_sub (IntWalk.i64_in _ (by omega)))) ?_
 refine sv (v := (vI .i64 (a - b))) (x_assign rfl) ?_
 refine wpList_nil (X_then (hK3_ _ _ ?_))
 clear hK3_
 refine C_seq (fun K4_ hK4_ => ?_)
 refine C_seq (fun K5_ hK5_ => C_reg ?_)
 refine sv (v := (vI .i64 (a - b))) (x_move rfl) ?_
 refine sv (v := (vB (decide (a - b < 0)))) (x_bin rfl rfl rfl) ?_
 refine wpList_nil (X_then (hK5_ _ _ ?_))
 clear hK5_
 refine C_cond (b := decide (a - b < 0)) rfl (fun c6_t => ?_) (fun c6_f => ?_)
 ·have c6_tp : a - b < 0 := of_decide_eq_true c6_t
  refine C_seq (fun K7_ hK7_ => C_reg ?_)
  refine sv (v := (vI .i64 (-1))) (x_assign rfl) ?_
  refine wpList_nil (X_then (hK7_ _ _ ?_))
  clear hK7_
  refine C_ret (X_thenR ?_)
  refine R_any (v := (vI .i64 (-1))) (run_results1 rfl rfl) ?_
  exact ⟨_, _, rfl, ⟨(congrArg (vI .i64) ((by simp only [ecm]; split <;> first | omega | (split <;> omega)) : -1 = ecm 3 (.n a) (.n b))), rfl⟩, (Same.refl w), H⟩
 ·have c6_fp : ¬ (a - b < 0) := of_decide_eq_false c6_f
  refine C_skip (X_then (hK4_ _ _ ?_))
  clear hK4_
  refine C_seq (fun K8_ hK8_ => ?_)
  refine C_seq (fun K9_ hK9_ => C_reg ?_)
  refine sv (v := (vI .i64 (a - b))) (x_move rfl) ?_
  refine sv (v := (vB (decide (0 < a - b)))) (x_bin rfl rfl rfl) ?_
  refine wpList_nil (X_then (hK9_ _ _ ?_))
  clear hK9_
  refine C_cond (b := decide (0 < a - b)) rfl (fun c10_t => ?_) (fun c10_f => ?_)
  ·have c10_tp : 0 < a - b := of_decide_eq_true c10_t
   refine C_seq (fun K11_ hK11_ => C_reg ?_)
   refine sv (v := (vI .i64 1)) (x_assign rfl) ?_
   refine wpList_nil (X_then (hK11_ _ _ ?_))
   clear hK11_
   refine C_ret (X_thenR ?_)
   refine R_any (v := (vI .i64 1)) (run_results1 rfl rfl) ?_
   exact ⟨_, _, rfl, ⟨(congrArg (vI .i64) ((by simp only [ecm]; split <;> first | omega | (split <;> omega)) : 1 = ecm 3 (.n a) (.n b))), rfl⟩, (Same.refl w), H⟩
  ·have c10_fp : ¬ (0 < a - b) := of_decide_eq_false c10_f
   refine C_skip (X_then (hK8_ _ _ ?_))
   clear hK8_
   refine C_seq (fun K12_ hK12_ => C_reg ?_)
   refine sv (v := (vI .i64 0)) (x_assign rfl) ?_
   refine wpList_nil (X_then (hK12_ _ _ ?_))
   clear hK12_
   refine C_ret ?_
   refine R_any (v := (vI .i64 0)) (run_results1 rfl rfl) ?_
   exact ⟨_, _, rfl, ⟨(congrArg (vI .i64) ((by simp only [ecm]; split <;> first | omega | (split <;> omega)) : 0 = ecm 3 (.n a) (.n b))), rfl⟩, (Same.refl w), H⟩

def EVal (ord : Int) (R : HP) (v : Value) (k : EK) : Prop :=
  (ord = 0 ∧ ∃ s : ByteArray, v = .iface 167 (.string s) ∧ k = .t s.data.toList) ∨ (ord = 1 ∧ ∃ s : ByteArray, v = .iface 166 (.string s) ∧ k = .t s.data.toList) ∨
  (ord = 2 ∧ ∃ (x : Value) (A : List Int), v = .iface 168 x ∧ RS R 1 x (List.length A) (bytesV A) ∧ k = .t (u8s A)) ∨ (ord = 3 ∧ ∃ a : Int, v = .iface 169 (.int .i64 a) ∧ (-4611686018427387903 ≤ a ∧ a ≤ 4611686018427387903) ∧ k = .n a)
/-- Ends of an order. -/
def EO (ord : Int) : KO EK where
  cm := ecm ord
  Val := EVal ord
  mono := fun s h => by
    rcases h with h | h | ⟨h0, x, A, h1, h2, h3⟩ | h
    · exact .inl h
    · exact .inr (.inl h)
    · exact .inr (.inr (.inl ⟨h0, x, A, h1, h2.mono s, h3⟩))
    · exact .inr (.inr (.inr h))
  one := fun h => by rcases h with ⟨_, s, h, _⟩ | ⟨_, s, h, _⟩ | ⟨_, x, A, h, _⟩ | ⟨_, a, h, _⟩ <;> (subst h; rfl)
  cmp := fun {R v w a b} h1 h2 => by
    rcases h1 with ⟨o1, s, e1, k1⟩ | ⟨o1, s, e1, k1⟩ | ⟨o1, x, A, e1, r1, k1⟩ | ⟨o1, i, e1, r1, k1⟩ <;> rcases h2 with ⟨o2, t, e2, k2⟩ | ⟨o2, t, e2, k2⟩ | ⟨o2, y, B, e2, r2, k2⟩ | ⟨o2, j, e2, r2, k2⟩ <;> first | (exfalso; omega) | skip
    · subst o1; subst e1; subst e2; subst k1; subst k2
      exact ⟨167, .string s, 136, rfl, fun W => by kernel_rfl, cb136, (enCmp0 R s t).mono fun v l h => h, fun W => by kernel_rfl⟩
    · subst o1; subst e1; subst e2; subst k1; subst k2
      exact ⟨166, .string s, 135, rfl, fun W => by kernel_rfl, cb135, (enCmp1 R s t).mono fun v l h => h, fun W => by kernel_rfl⟩
    · subst o1; subst e1; subst e2; subst k1; subst k2
      exact ⟨168, x, 137, rfl, fun W => by kernel_rfl, cb137, (bCmp R x y A B r1 r2).mono fun v l h => h, fun W => by kernel_rfl⟩
    · subst o1; subst e1; subst e2; subst k1; subst k2
      exact ⟨169, .int .i64 i, 138, rfl, fun W => by kernel_rfl, cb138, (enCmp3 R i j r1 r2).mono fun v l h => h, fun W => by kernel_rfl⟩
  refl := ecm_refl ord
  anti := ecm_anti ord
  flip := fun {a b} => by have := ecm_flip ord a b; omega
  trans := ecm_trans ord
end Go.Proofs.Ytlnihndjepjagaa
set_option linter.unusedVariables false
set_option linter.unusedSimpArgs false
namespace Go.Proofs.Ytlnihndjepjagaa
open Go Go.RowKit Gw
open Go.Value renaming int → vI, bool → vB, slice → vS, pointer → vP, agg → vA, tuple → vT

structure SN where
  in__Begin : ByteArray
  in__End : ByteArray
  in__Point : Bool
  from_ : Int
  till : Int
def SN.cells (x : SN) : List Value := [(Value.string x.in__Begin), (Value.string x.in__End), (vB x.in__Point), (vI .i64 x.from_), (vI .i64 x.till)]
theorem SN.len (x : SN) : x.cells.length = 5 := rfl

theorem if_ff {α : Type} (a b : α) : (if (false : Bool) = true then a else b) = b := rfl
theorem if_tt {α : Type} (a b : α) : (if (true : Bool) = true then a else b) = a := rfl
/-! ### Intervals as data -/
def SN.plain (s : SN) : SN := if s.in__Point = true then ⟨s.in__Begin, s.in__Begin ++ ByteArray.mk #[0], false, s.from_, s.till⟩ else s
def SN.lo (ord : Int) (s : SN) : EK := ek ord s.plain.in__Begin s.plain.from_
def SN.hi (ord : Int) (s : SN) : EK := ek ord s.plain.in__End s.plain.till
/-- Ahead of: it begins ahead, or with it, and ends ahead. -/
def sAhead (ord : Int) (s t : SN) : Bool := decide (ecm ord (s.lo ord) (t.lo ord) < 0) || (decide (ecm ord (s.lo ord) (t.lo ord) = 0) && decide (ecm ord (s.hi ord) (t.hi ord) < 0))
def sMeet (ord : Int) (s t : SN) : Bool := decide (ecm ord (s.lo ord) (t.hi ord) < 0) && decide (ecm ord (t.lo ord) (s.hi ord) < 0)
def sSame (ord : Int) (s t : SN) : Bool := !(sAhead ord s t) && !(sAhead ord t s)
def sProper (ord : Int) (s : SN) : Bool := decide (ecm ord (s.lo ord) (s.hi ord) < 0)
theorem sSame_iff {ord : Int} {s t : SN} : sSame ord s t = true ↔ s.lo ord = t.lo ord ∧ s.hi ord = t.hi ord := by
  have f1 := ecm_flip ord (s.lo ord) (t.lo ord)
  have f2 := ecm_flip ord (s.hi ord) (t.hi ord)
  unfold sSame sAhead
  simp only [Bool.and_eq_true, Bool.not_eq_true', Bool.or_eq_false_iff, Bool.and_eq_false_iff, decide_eq_false_iff_not]
  constructor
  · intro h
    have e1 : ecm ord (s.lo ord) (t.lo ord) = 0 := by omega
    have e2 : ecm ord (s.hi ord) (t.hi ord) = 0 := by omega
    exact ⟨ecm_anti ord e1, ecm_anti ord e2⟩
  · rintro ⟨e1, e2⟩
    rw [e1, e2] at *
    rw [ecm_refl, ecm_refl]
    omega
attribute [irreducible] sAhead sMeet sSame
structure SnOk (ord : Int) (s : SN) : Prop where
  o : 0 ≤ ord ∧ ord ≤ 3
  b : s.in__Begin.size ≤ 2147483647
  e : s.in__End.size ≤ 2147483647
  n : ord = 3 → s.in__Point = false ∧ -2305843009213693952 ≤ s.from_ ∧ s.from_ ≤ 2305843009213693952 ∧ -2305843009213693952 ≤ s.till ∧ s.till ≤ 2305843009213693952
theorem lo_text {ord : Int} {s : SN} (h : ord ≠ 3) : s.lo ord = .t s.in__Begin.data.toList := by
  unfold SN.lo ek SN.plain
  rw [if_neg h]
  split <;> rfl
theorem hi_text {ord : Int} {s : SN} (h : ord ≠ 3) (hp : s.in__Point = false) : s.hi ord = .t s.in__End.data.toList := by
  unfold SN.hi ek SN.plain
  rw [if_neg h, if_neg (by rw [hp]; decide)]
theorem hi_point {ord : Int} {s : SN} (h : ord ≠ 3) (hp : s.in__Point = true) : s.hi ord = .t (s.in__Begin ++ ByteArray.mk #[0]).data.toList := by
  unfold SN.hi ek SN.plain
  rw [if_neg h, if_pos hp]
theorem lo_num {s : SN} : s.lo 3 = .n s.from_ := by
  unfold SN.lo ek SN.plain
  rw [if_pos rfl]
  split <;> rfl
theorem hi_num {s : SN} : s.hi 3 = .n s.till := by
  unfold SN.hi ek SN.plain
  rw [if_pos rfl]
  split <;> rfl
def EK.text : EK → ByteArray | .t x => ⟨x.toArray⟩ | .n _ => ⟨#[]⟩
def EK.num : EK → Int | .t _ => 0 | .n x => x
/-- What ends come to, as data. -/
def ekSpan (b e : EK) : SN := ⟨b.text, e.text, false, b.num, e.num⟩
theorem text_t (s : ByteArray) : EK.text (.t s.data.toList) = s := by
  cases s; simp [EK.text]
theorem num_t (x : List UInt8) : EK.num (.t x) = 0 := rfl
theorem app0 (s : ByteArray) : (s ++ ByteArray.mk #[0]).data.toList = s.data.toList ++ [0] := by simp
theorem ints_app0 (s : ByteArray) : u8s (ints s ++ [0]) = (s ++ ByteArray.mk #[0]).data.toList := by
  rw [app0, ← u8s_ints s]
  simp [u8s]
theorem text_strN (A : List Int) : EK.text (.t (u8s A)) = strN A := by
  rw [← strN_u8s, text_t]


set_option maxHeartbeats 1600000 in
theorem spEnds (R : HP) (ord : Int) (s t : ByteArray) (a b : Int) :
    Tri Try.prog 77 #[(vI .i64 ord), (Value.string s), (Value.string t), (vI .i64 a), (vI .i64 b)] R [] (fun v__ post__ => v__ = (vI .i64 (ecm ord (ek ord s a) (ek ord t b))) ∧ post__ = []) := by
 refine Tri.into (n := 46) (al := [(vI .i64 ord), (Value.string s), (Value.string t), (vI .i64 a), (vI .i64 b)]) Try.func77 rfl Try.ntmps77 rfl rfl fun w F H => ?_
 refine C_seq (fun K1_ hK1_ => C_reg ?_)
 refine sv (v := (vI .i64 0)) (x_assign rfl) ?_
 refine wpList_nil (X_then (hK1_ _ _ ?_))
 clear hK1_
 refine C_seq (fun K2_ hK2_ => C_reg ?_)
 refine sv (v := (Value.string s)) (x_move rfl) ?_
 refine sv (v := (Value.string t)) (x_move rfl) ?_
 refine sv (v := (vB (Op.bytesLess s.toList t.toList))) (x_str rfl rfl rfl (by decide)) ?_
 refine sv (v := (Value.string s)) (x_move rfl) ?_
 refine sv (v := (Value.string t)) (x_move rfl) ?_
 refine sv (v := (vB (!(Op.bytesLess s.toList t.toList || s.toList == t.toList)))) (x_str rfl rfl rfl (by decide)) ?_
 refine sv (v := (vB (Op.bytesLess s.toList t.toList))) (x_assign rfl) ?_
 refine sv (v := (vB (!(Op.bytesLess s.toList t.toList || s.toList == t.toList)))) (x_assign rfl) ?_
 refine wpList_nil (X_then (hK2_ _ _ ?_))
 clear hK2_
 refine C_seq (fun K3_ hK3_ => ?_)
 refine C_block ?_
 refine C_seq (fun K4_ hK4_ => C_reg ?_)
 refine sv (v := (vI .i64 ord)) (x_move rfl) ?_
 refine sv (v := (vB (decide (ord = 3)))) (x_bin rfl rfl rfl) ?_
 refine sv (v := (vB (decide (ord = 3)))) (x_assign rfl) ?_
 refine wpList_nil (X_then (hK4_ _ _ ?_))
 clear hK4_
 refine C_cond (b := decide (ord = 3)) rfl (fun c5_t => ?_) (fun c5_f => ?_)
 ·have c5_tp : ord = 3 := of_decide_eq_true c5_t
  refine C_reg ?_
  refine sv (v := (vI .i64 a)) (x_move rfl) ?_
  refine sv (v := (vI .i64 b)) (x_move rfl) ?_
  refine sv (v := (vB (decide (a < b)))) (x_bin rfl rfl rfl) ?_
  refine sv (v := (vI .i64 a)) (x_move rfl) ?_
  refine sv (v := (vI .i64 b)) (x_move rfl) ?_
  refine sv (v := (vB (decide (b < a)))) (x_bin rfl rfl rfl) ?_
  refine sv (v := (vB (decide (a < b)))) (x_assign rfl) ?_
  refine sv (v := (vB (decide (b < a)))) (x_assign rfl) ?_
  refine wpList_nil (X_blkN (X_then (hK3_ _ _ ?_)))
  clear hK3_
  refine C_seq (fun K6_ hK6_ => ?_)
  refine C_block ?_
  refine C_seq (fun K7_ hK7_ => C_reg ?_)
  refine sv (v := (vB (decide (a < b)))) (x_move rfl) ?_
  refine sv (v := (vB (decide (a < b)))) (x_assign rfl) ?_
  refine wpList_nil (X_then (hK7_ _ _ ?_))
  clear hK7_
  refine C_cond (b := decide (a < b)) rfl (fun c8_t => ?_) (fun c8_f => ?_)
  ·have c8_tp : a < b := of_decide_eq_true c8_t
   refine C_seq (fun K9_ hK9_ => C_reg ?_)
   refine sv (v := (vI .i64 (-1))) (x_assign rfl) ?_
   refine wpList_nil (X_then (hK9_ _ _ ?_))
   clear hK9_
   refine C_ret (X_blkR (X_thenR ?_))
   refine R_any (v := (vI .i64 (-1))) (run_results1 rfl rfl) ?_
   exact ⟨_, _, rfl, ⟨(congrArg (vI .i64) ((by rw [ecm_ends]; unfold endsL endsM; rw [if_pos c5_tp, if_pos c5_tp, c8_t] <;> rfl) : -1 = ecm ord (ek ord s a) (ek ord t b))), rfl⟩, (Same.refl w), H⟩
  ·have c8_fp : ¬ (a < b) := of_decide_eq_false c8_f
   refine C_seq (fun K10_ hK10_ => C_reg ?_)
   refine sv (v := (vB (decide (b < a)))) (x_move rfl) ?_
   refine sv (v := (vB (decide (b < a)))) (x_assign rfl) ?_
   refine wpList_nil (X_then (hK10_ _ _ ?_))
   clear hK10_
   refine C_cond (b := decide (b < a)) rfl (fun c11_t => ?_) (fun c11_f => ?_)
   ·have c11_tp : b < a := of_decide_eq_true c11_t
    refine C_seq (fun K12_ hK12_ => C_reg ?_)
    refine sv (v := (vI .i64 1)) (x_assign rfl) ?_
    refine wpList_nil (X_then (hK12_ _ _ ?_))
    clear hK12_
    refine C_ret (X_blkR (X_thenR ?_))
    refine R_any (v := (vI .i64 1)) (run_results1 rfl rfl) ?_
    exact ⟨_, _, rfl, ⟨(congrArg (vI .i64) ((by rw [ecm_ends]; unfold endsL endsM; rw [if_pos c5_tp, if_pos c5_tp, c11_t, c8_f] <;> rfl) : 1 = ecm ord (ek ord s a) (ek ord t b))), rfl⟩, (Same.refl w), H⟩
   ·have c11_fp : ¬ (b < a) := of_decide_eq_false c11_f
    refine C_skip (X_blkN (X_then (hK6_ _ _ ?_)))
    clear hK6_
    refine C_seq (fun K13_ hK13_ => C_reg ?_)
    refine sv (v := (vI .i64 0)) (x_assign rfl) ?_
    refine wpList_nil (X_then (hK13_ _ _ ?_))
    clear hK13_
    refine C_ret ?_
    refine R_any (v := (vI .i64 0)) (run_results1 rfl rfl) ?_
    exact ⟨_, _, rfl, ⟨(congrArg (vI .i64) ((by rw [ecm_ends]; unfold endsL endsM; rw [if_pos c5_tp, if_pos c5_tp, c11_f, c8_f] <;> rfl) : 0 = ecm ord (ek ord s a) (ek ord t b))), rfl⟩, (Same.refl w), H⟩
 ·have c5_fp : ¬ (ord = 3) := of_decide_eq_false c5_f
  refine C_seq (fun K14_ hK14_ => C_reg ?_)
  refine sv (v := (vI .i64 ord)) (x_move rfl) ?_
  refine sv (v := (vB (decide (ord ≠ 0)))) (x_bin rfl rfl rfl) ?_
  refine sv (v := (vB (decide (ord ≠ 0)))) (x_move rfl) ?_
  rcases Bool.eq_false_or_eq_true (decide (ord ≠ 0)) with c15_t | c15_f
  ·have c15_tp : ord ≠ 0 := of_decide_eq_true c15_t
   refine S_yes (j := 2) (dj := 31) (b := true) rfl rfl (congrArg vB c15_t) (T_val (v := (Value.string s)) (x_move rfl) ?_)
   refine S_yes (j := 2) (dj := 31) (b := true) rfl rfl (congrArg vB c15_t) (T_val (v := (vB (s.toList == (ByteArray.mk #[]).toList))) (x_str rfl rfl rfl (by decide)) ?_)
   refine S_yes (j := 2) (dj := 31) (b := true) rfl rfl (congrArg vB c15_t) (T_val (v := (Value.string t)) (x_move rfl) ?_)
   refine S_yes (j := 2) (dj := 31) (b := true) rfl rfl (congrArg vB c15_t) (T_val (v := (vB (t.toList == (ByteArray.mk #[]).toList))) (x_str rfl rfl rfl (by decide)) ?_)
   refine S_yes (j := 2) (dj := 31) (b := true) rfl rfl (congrArg vB c15_t) (T_val (v := (vB (!((s.toList == (ByteArray.mk #[]).toList) == (t.toList == (ByteArray.mk #[]).toList))))) (x_neqB rfl rfl Try.underlying4) ?_)
   refine S_list (T_pickT (v := (vB (!((s.toList == (ByteArray.mk #[]).toList) == (t.toList == (ByteArray.mk #[]).toList))))) (congrArg vB c15_t) rfl ?_)
   refine sv (v := (vB (!((s.toList == (ByteArray.mk #[]).toList) == (t.toList == (ByteArray.mk #[]).toList))))) (x_assign rfl) ?_
   refine wpList_nil (X_then (hK14_ _ _ ?_))
   clear hK14_
   refine C_cond (b := !((s.toList == (ByteArray.mk #[]).toList) == (t.toList == (ByteArray.mk #[]).toList))) rfl (fun c16_t => ?_) (fun c16_f => ?_)
   ·skip
    refine C_reg ?_
    refine sv (v := (Value.string t)) (x_move rfl) ?_
    refine sv (v := (vB (t.toList == (ByteArray.mk #[]).toList))) (x_str rfl rfl rfl (by decide)) ?_
    refine sv (v := (Value.string s)) (x_move rfl) ?_
    refine sv (v := (vB (s.toList == (ByteArray.mk #[]).toList))) (x_str rfl rfl rfl (by decide)) ?_
    refine sv (v := (vB (t.toList == (ByteArray.mk #[]).toList))) (x_assign rfl) ?_
    refine sv (v := (vB (s.toList == (ByteArray.mk #[]).toList))) (x_assign rfl) ?_
    refine wpList_nil (X_blkN (X_then (hK3_ _ _ ?_)))
    clear hK3_
    refine C_seq (fun K17_ hK17_ => ?_)
    refine C_block ?_
    refine C_seq (fun K18_ hK18_ => C_reg ?_)
    refine sv (v := (vB (t.toList == (ByteArray.mk #[]).toList))) (x_move rfl) ?_
    refine sv (v := (vB (t.toList == (ByteArray.mk #[]).toList))) (x_assign rfl) ?_
    refine wpList_nil (X_then (hK18_ _ _ ?_))
    clear hK18_
    refine C_cond (b := t.toList == (ByteArray.mk #[]).toList) rfl (fun c19_t => ?_) (fun c19_f => ?_)
    ·skip
     refine C_seq (fun K20_ hK20_ => C_reg ?_)
     refine sv (v := (vI .i64 (-1))) (x_assign rfl) ?_
     refine wpList_nil (X_then (hK20_ _ _ ?_))
     clear hK20_
     refine C_ret (X_blkR (X_thenR ?_))
     refine R_any (v := (vI .i64 (-1))) (run_results1 rfl rfl) ?_
     exact ⟨_, _, rfl, ⟨(congrArg (vI .i64) ((by rw [ecm_ends]; unfold endsL endsM; rw [if_neg c5_fp, if_neg c5_fp, c15_t, Bool.true_and, c16_t, if_tt, if_tt, c19_t] <;> rfl) : -1 = ecm ord (ek ord s a) (ek ord t b))), rfl⟩, (Same.refl w), H⟩
    ·skip
     refine C_seq (fun K21_ hK21_ => C_reg ?_)
     refine sv (v := (vB (s.toList == (ByteArray.mk #[]).toList))) (x_move rfl) ?_
     refine sv (v := (vB (s.toList == (ByteArray.mk #[]).toList))) (x_assign rfl) ?_
     refine wpList_nil (X_then (hK21_ _ _ ?_))
     clear hK21_
     refine C_cond (b := s.toList == (ByteArray.mk #[]).toList) rfl (fun c22_t => ?_) (fun c22_f => ?_)
     ·skip
      refine C_seq (fun K23_ hK23_ => C_reg ?_)
      refine sv (v := (vI .i64 1)) (x_assign rfl) ?_
      refine wpList_nil (X_then (hK23_ _ _ ?_))
      clear hK23_
      refine C_ret (X_blkR (X_thenR ?_))
      refine R_any (v := (vI .i64 1)) (run_results1 rfl rfl) ?_
      exact ⟨_, _, rfl, ⟨(congrArg (vI .i64) ((by rw [ecm_ends]; unfold endsL endsM; rw [if_neg c5_fp, if_neg c5_fp, c15_t, Bool.true_and, c16_t, if_tt, if_tt, c22_t, c19_f] <;> rfl) : 1 = ecm ord (ek ord s a) (ek ord t b))), rfl⟩, (Same.refl w), H⟩
     ·skip
      refine C_skip (X_blkN (X_then (hK17_ _ _ ?_)))
      clear hK17_
      refine C_seq (fun K24_ hK24_ => C_reg ?_)
      refine sv (v := (vI .i64 0)) (x_assign rfl) ?_
      refine wpList_nil (X_then (hK24_ _ _ ?_))
      clear hK24_
      refine C_ret ?_
      refine R_any (v := (vI .i64 0)) (run_results1 rfl rfl) ?_
      exact ⟨_, _, rfl, ⟨(congrArg (vI .i64) ((by rw [ecm_ends]; unfold endsL endsM; rw [if_neg c5_fp, if_neg c5_fp, c15_t, Bool.true_and, c16_t, if_tt, if_tt, c22_f, c19_f] <;> rfl) : 0 = ecm ord (ek ord s a) (ek ord t b))), rfl⟩, (Same.refl w), H⟩
   ·skip
    refine C_skip (X_blkN (X_then (hK3_ _ _ ?_)))
    clear hK3_
    refine C_seq (fun K25_ hK25_ => ?_)
    refine C_block ?_
    refine C_seq (fun K26_ hK26_ => C_reg ?_)
    refine sv (v := (vB (Op.bytesLess s.toList t.toList))) (x_move rfl) ?_
    refine sv (v := (vB (Op.bytesLess s.toList t.toList))) (x_assign rfl) ?_
    refine wpList_nil (X_then (hK26_ _ _ ?_))
    clear hK26_
    refine C_cond (b := Op.bytesLess s.toList t.toList) rfl (fun c27_t => ?_) (fun c27_f => ?_)
    ·skip
     refine C_seq (fun K28_ hK28_ => C_reg ?_)
     refine sv (v := (vI .i64 (-1))) (x_assign rfl) ?_
     refine wpList_nil (X_then (hK28_ _ _ ?_))
     clear hK28_
     refine C_ret (X_blkR (X_thenR ?_))
     refine R_any (v := (vI .i64 (-1))) (run_results1 rfl rfl) ?_
     exact ⟨_, _, rfl, ⟨(congrArg (vI .i64) ((by rw [ecm_ends]; unfold endsL endsM; rw [if_neg c5_fp, if_neg c5_fp, c15_t, Bool.true_and, c16_f, if_ff, if_ff, c27_t] <;> rfl) : -1 = ecm ord (ek ord s a) (ek ord t b))), rfl⟩, (Same.refl w), H⟩
    ·skip
     refine C_seq (fun K29_ hK29_ => C_reg ?_)
     refine sv (v := (vB (!(Op.bytesLess s.toList t.toList || s.toList == t.toList)))) (x_move rfl) ?_
     refine sv (v := (vB (!(Op.bytesLess s.toList t.toList || s.toList == t.toList)))) (x_assign rfl) ?_
     refine wpList_nil (X_then (hK29_ _ _ ?_))
     clear hK29_
     refine C_cond (b := !(Op.bytesLess s.toList t.toList || s.toList == t.toList)) rfl (fun c30_t => ?_) (fun c30_f => ?_)
     ·skip
      refine C_seq (fun K31_ hK31_ => C_reg ?_)
      refine sv (v := (vI .i64 1)) (x_assign rfl) ?_
      refine wpList_nil (X_then (hK31_ _ _ ?_))
      clear hK31_
      refine C_ret (X_blkR (X_thenR ?_))
      refine R_any (v := (vI .i64 1)) (run_results1 rfl rfl) ?_
      exact ⟨_, _, rfl, ⟨(congrArg (vI .i64) ((by rw [ecm_ends]; unfold endsL endsM; rw [if_neg c5_fp, if_neg c5_fp, c15_t, Bool.true_and, c16_f, if_ff, if_ff, c30_t, c27_f] <;> rfl) : 1 = ecm ord (ek ord s a) (ek ord t b))), rfl⟩, (Same.refl w), H⟩
     ·skip
      refine C_skip (X_blkN (X_then (hK25_ _ _ ?_)))
      clear hK25_
      refine C_seq (fun K32_ hK32_ => C_reg ?_)
      refine sv (v := (vI .i64 0)) (x_assign rfl) ?_
      refine wpList_nil (X_then (hK32_ _ _ ?_))
      clear hK32_
      refine C_ret ?_
      refine R_any (v := (vI .i64 0)) (run_results1 rfl rfl) ?_
      exact ⟨_, _, rfl, ⟨(congrArg (vI .i64) ((by rw [ecm_ends]; unfold endsL endsM; rw [if_neg c5_fp, if_neg c5_fp, c15_t, Bool.true_and, c16_f, if_ff, if_ff, c30_f, c27_f] <;> rfl) : 0 = ecm ord (ek ord s a) (ek ord t b))), rfl⟩, (Same.refl w), H⟩
  ·have c15_fp : ¬ (ord ≠ 0) := of_decide_eq_false c15_f
   refine S_no (j := 2) (dj := 31) (b := false) rfl rfl (congrArg vB c15_f) (by decide) ?_
   refine S_no (j := 2) (dj := 31) (b := false) rfl rfl (congrArg vB c15_f) (by decide) ?_
   refine S_no (j := 2) (dj := 31) (b := false) rfl rfl (congrArg vB c15_f) (by decide) ?_
   refine S_no (j := 2) (dj := 31) (b := false) rfl rfl (congrArg vB c15_f) (by decide) ?_
   refine S_no (j := 2) (dj := 31) (b := false) rfl rfl (congrArg vB c15_f) (by decide) ?_
   refine S_list (T_pickF (v := (vB false)) (congrArg vB c15_f) rfl ?_)
   refine sv (v := (vB false)) (x_assign rfl) ?_
   refine wpList_nil (X_then (hK14_ _ _ ?_))
   clear hK14_
   refine C_condF rfl ?_
   refine C_skip (X_blkN (X_then (hK3_ _ _ ?_)))
   clear hK3_
   refine C_seq (fun K33_ hK33_ => ?_)
   refine C_block ?_
   refine C_seq (fun K34_ hK34_ => C_reg ?_)
   refine sv (v := (vB (Op.bytesLess s.toList t.toList))) (x_move rfl) ?_
   refine sv (v := (vB (Op.bytesLess s.toList t.toList))) (x_assign rfl) ?_
   refine wpList_nil (X_then (hK34_ _ _ ?_))
   clear hK34_
   refine C_cond (b := Op.bytesLess s.toList t.toList) rfl (fun c35_t => ?_) (fun c35_f => ?_)
   ·skip
    refine C_seq (fun K36_ hK36_ => C_reg ?_)
    refine sv (v := (vI .i64 (-1))) (x_assign rfl) ?_
    refine wpList_nil (X_then (hK36_ _ _ ?_))
    clear hK36_
    refine C_ret (X_blkR (X_thenR ?_))
    refine R_any (v := (vI .i64 (-1))) (run_results1 rfl rfl) ?_
    exact ⟨_, _, rfl, ⟨(congrArg (vI .i64) ((by rw [ecm_ends]; unfold endsL endsM; rw [if_neg c5_fp, if_neg c5_fp, c15_f, Bool.false_and, if_ff, if_ff, c35_t] <;> rfl) : -1 = ecm ord (ek ord s a) (ek ord t b))), rfl⟩, (Same.refl w), H⟩
   ·skip
    refine C_seq (fun K37_ hK37_ => C_reg ?_)
    refine sv (v := (vB (!(Op.bytesLess s.toList t.toList || s.toList == t.toList)))) (x_move rfl) ?_
    refine sv (v := (vB (!(Op.bytesLess s.toList t.toList || s.toList == t.toList)))) (x_assign rfl) ?_
    refine wpList_nil (X_then (hK37_ _ _ ?_))
    clear hK37_
    refine C_cond (b := !(Op.bytesLess s.toList t.toList || s.toList == t.toList)) rfl (fun c38_t => ?_) (fun c38_f => ?_)
    ·skip
     refine C_seq (fun K39_ hK39_ => C_reg ?_)
     refine sv (v := (vI .i64 1)) (x_assign rfl) ?_
     refine wpList_nil (X_then (hK39_ _ _ ?_))
     clear hK39_
     refine C_ret (X_blkR (X_thenR ?_))
     refine R_any (v := (vI .i64 1)) (run_results1 rfl rfl) ?_
     exact ⟨_, _, rfl, ⟨(congrArg (vI .i64) ((by rw [ecm_ends]; unfold endsL endsM; rw [if_neg c5_fp, if_neg c5_fp, c15_f, Bool.false_and, if_ff, if_ff, c38_t, c35_f] <;> rfl) : 1 = ecm ord (ek ord s a) (ek ord t b))), rfl⟩, (Same.refl w), H⟩
    ·skip
     refine C_skip (X_blkN (X_then (hK33_ _ _ ?_)))
     clear hK33_
     refine C_seq (fun K40_ hK40_ => C_reg ?_)
     refine sv (v := (vI .i64 0)) (x_assign rfl) ?_
     refine wpList_nil (X_then (hK40_ _ _ ?_))
     clear hK40_
     refine C_ret ?_
     refine R_any (v := (vI .i64 0)) (run_results1 rfl rfl) ?_
     exact ⟨_, _, rfl, ⟨(congrArg (vI .i64) ((by rw [ecm_ends]; unfold endsL endsM; rw [if_neg c5_fp, if_neg c5_fp, c15_f, Bool.false_and, if_ff, if_ff, c38_f, c35_f] <;> rfl) : 0 = ecm ord (ek ord s a) (ek ord t b))), rfl⟩, (Same.refl w), H⟩

set_option maxHeartbeats 1600000 in
theorem spPlain (R : HP) (s : SN) (hb : s.in__Begin.size ≤ 2147483647) :
    Tri Try.prog 76 #[(vA #[(Value.string s.in__Begin), (Value.string s.in__End), (vB s.in__Point), (vI .i64 s.from_), (vI .i64 s.till)])] R [] (fun v__ post__ => v__ = (vA #[(Value.string ((SN.plain s).in__Begin)), (Value.string ((SN.plain s).in__End)), (vB ((SN.plain s).in__Point)), (vI .i64 ((SN.plain s).from_)), (vI .i64 ((SN.plain s).till))]) ∧ post__ = []) := by
 refine Tri.into (n := 16) (al := [(vA #[(Value.string s.in__Begin), (Value.string s.in__End), (vB s.in__Point), (vI .i64 s.from_), (vI .i64 s.till)])]) Try.func76 rfl Try.ntmps76 rfl rfl fun w F H => ?_
 refine C_seq (fun K1_ hK1_ => C_reg ?_)
 refine S_list (T_box (v := (vA #[(Value.string s.in__Begin), (Value.string s.in__End), (vB s.in__Point), (vI .i64 s.from_), (vI .i64 s.till)])) rfl H ?_)
 intro b2_ w3_ S5_ H4_
 have S6_ := Same.trans (Same.refl w) S5_
 refine S_list (T_alloc z44 H4_ ?_)
 intro b7_ w8_ S10_ H9_
 have S11_ := Same.trans S6_ S10_
 refine wpList_nil (X_then (hK1_ _ _ ?_))
 clear hK1_
 refine C_seq (fun K12_ hK12_ => ?_)
 refine C_seq (fun K13_ hK13_ => C_reg ?_)
 refine sv (v := (vQ b2_)) (by kernel_rfl) ?_
 refine sv (v := (vP (some ⟨b2_, 2, none⟩))) (by kernel_rfl) ?_
 refine sv (v := (vB s.in__Point)) (x_load1 rfl Try.underlying4 rfl ((Holds.rd H9_ 1 rfl) 2 (vB s.in__Point) rfl)) ?_
 refine wpList_nil (X_then (hK13_ _ _ ?_))
 clear hK13_
 refine C_cond (b := s.in__Point) rfl (fun c14_t => ?_) (fun c14_f => ?_)
 ·skip
  refine C_reg ?_
  refine sv (v := (vQ b2_)) (by kernel_rfl) ?_
  refine sv (v := (vQ b2_)) (by kernel_rfl) ?_
  refine sv (v := (Value.string s.in__Begin)) (x_load1 rfl Try.underlying9 rfl ((Holds.rd H9_ 1 rfl) 0 (Value.string s.in__Begin) rfl)) ?_
  refine sv (v := (vQ b2_)) (by kernel_rfl) ?_
  refine sv (v := (vQ b2_)) (by kernel_rfl) ?_
  refine sv (v := (Value.string s.in__Begin)) (x_load1 rfl Try.underlying9 rfl ((Holds.rd H9_ 1 rfl) 0 (Value.string s.in__Begin) rfl)) ?_
  refine sv (v := (Value.string (s.in__Begin ++ (ByteArray.mk #[0])))) (x_str rfl rfl (so_add (by have h1__ : (ByteArray.mk #[0]).size = 1 := rfl; omega)) (by decide)) ?_
  refine sv (v := (vA #[(Value.string s.in__Begin), (Value.string (s.in__Begin ++ (ByteArray.mk #[0]))), (vB false)])) (by kernel_rfl) ?_
  refine sv (v := (vQ b2_)) (by kernel_rfl) ?_
  refine S_list0 (T_storeN (vs := [(Value.string s.in__Begin), (Value.string (s.in__Begin ++ (ByteArray.mk #[0]))), (vB false)]) rfl rfl z42 rfl (by simp [Value.oneCell']) H9_ 1 rfl (Nat.le_of_ble_eq_true (by rfl)) ?_)
  intro w15_ S17_ H16_
  have S18_ := Same.trans S11_ S17_
  refine wpList_nil (X_then (hK12_ _ _ ?_))
  clear hK12_
  refine C_seq (fun K19_ hK19_ => C_reg ?_)
  refine sv (v := (vA #[(Value.string s.in__Begin), (Value.string (s.in__Begin ++ (ByteArray.mk #[0]))), (vB false), (vI .i64 s.from_), (vI .i64 s.till)])) (x_loadN (vs := [(Value.string s.in__Begin), (Value.string (s.in__Begin ++ (ByteArray.mk #[0]))), (vB false), (vI .i64 s.from_), (vI .i64 s.till)]) rfl Try.underlying44 rfl z44 rfl (Rd.cells (Holds.rd H16_ 1 rfl) 0 rfl)) ?_
  refine S_list0 (T_storeN (vs := [(Value.string s.in__Begin), (Value.string (s.in__Begin ++ (ByteArray.mk #[0]))), (vB false), (vI .i64 s.from_), (vI .i64 s.till)]) rfl rfl z44 rfl (by simp [Value.oneCell']) H16_ 0 rfl (Nat.le_of_ble_eq_true (by rfl)) ?_)
  intro w20_ S22_ H21_
  have S23_ := Same.trans S18_ S22_
  refine wpList_nil (X_then (hK19_ _ _ ?_))
  clear hK19_
  refine C_ret ?_
  refine R_any (v := (vA #[(Value.string s.in__Begin), (Value.string (s.in__Begin ++ (ByteArray.mk #[0]))), (vB false), (vI .i64 s.from_), (vI .i64 s.till)])) (run_results1 rfl ⟨_, rfl, load_resN Try.underlying44 rfl z44 rfl (vs := [(Value.string s.in__Begin), (Value.string (s.in__Begin ++ (ByteArray.mk #[0]))), (vB false), (vI .i64 s.from_), (vI .i64 s.till)]) (Holds.cl_cells H21_ 0 rfl 0 rfl)⟩) ?_
  have H24_ : Holds w20_ (ro R :: F) := (Holds.pkF H21_ [2] 2 :)
  exact ⟨_, _, rfl, ⟨(congrArg (fun l => vA (List.toArray l)) (lcons (congrArg Value.string ((by unfold SN.plain; simp [c14_t]) : s.in__Begin = ((SN.plain s).in__Begin))) (lcons (congrArg Value.string ((by unfold SN.plain; simp [c14_t]) : (s.in__Begin ++ (ByteArray.mk #[0])) = ((SN.plain s).in__End))) (lcons (congrArg vB ((by unfold SN.plain; simp [c14_t]) : false = ((SN.plain s).in__Point))) (lcons (congrArg (vI .i64) ((by unfold SN.plain; simp [c14_t]) : s.from_ = (SN.plain s).from_)) (lcons (congrArg (vI .i64) ((by unfold SN.plain; simp [c14_t]) : s.till = (SN.plain s).till)) rfl)))))), rfl⟩, S23_, H24_⟩
 ·skip
  refine C_skip (X_then (hK12_ _ _ ?_))
  clear hK12_
  refine C_seq (fun K25_ hK25_ => C_reg ?_)
  refine sv (v := (vA #[(Value.string s.in__Begin), (Value.string s.in__End), (vB s.in__Point), (vI .i64 s.from_), (vI .i64 s.till)])) (x_loadN (vs := [(Value.string s.in__Begin), (Value.string s.in__End), (vB s.in__Point), (vI .i64 s.from_), (vI .i64 s.till)]) rfl Try.underlying44 rfl z44 rfl (Rd.cells (Holds.rd H9_ 1 rfl) 0 rfl)) ?_
  refine S_list0 (T_storeN (vs := [(Value.string s.in__Begin), (Value.string s.in__End), (vB s.in__Point), (vI .i64 s.from_), (vI .i64 s.till)]) rfl rfl z44 rfl (by simp [Value.oneCell']) H9_ 0 rfl (Nat.le_of_ble_eq_true (by rfl)) ?_)
  intro w26_ S28_ H27_
  have S29_ := Same.trans S11_ S28_
  refine wpList_nil (X_then (hK25_ _ _ ?_))
  clear hK25_
  refine C_ret ?_
  refine R_any (v := (vA #[(Value.string s.in__Begin), (Value.string s.in__End), (vB s.in__Point), (vI .i64 s.from_), (vI .i64 s.till)])) (run_results1 rfl ⟨_, rfl, load_resN Try.underlying44 rfl z44 rfl (vs := [(Value.string s.in__Begin), (Value.string s.in__End), (vB s.in__Point), (vI .i64 s.from_), (vI .i64 s.till)]) (Holds.cl_cells H27_ 0 rfl 0 rfl)⟩) ?_
  have H30_ : Holds w26_ (ro R :: F) := (Holds.pkF H27_ [2] 2 :)
  exact ⟨_, _, rfl, ⟨(congrArg (fun l => vA (List.toArray l)) (lcons (congrArg Value.string ((by unfold SN.plain; simp [c14_f]) : s.in__Begin = ((SN.plain s).in__Begin))) (lcons (congrArg Value.string ((by unfold SN.plain; simp [c14_f]) : s.in__End = ((SN.plain s).in__End))) (lcons (congrArg vB ((by unfold SN.plain; simp [c14_f]) : s.in__Point = ((SN.plain s).in__Point))) (lcons (congrArg (vI .i64) ((by unfold SN.plain; simp [c14_f]) : s.from_ = (SN.plain s).from_)) (lcons (congrArg (vI .i64) ((by unfold SN.plain; simp [c14_f]) : s.till = (SN.plain s).till)) rfl)))))), rfl⟩, S29_, H30_⟩

set_option maxHeartbeats 1600000 in
theorem spAhead (R : HP) (ord : Int) (s t : SN) (hs : s.in__Begin.size ≤ 2147483647) (ht : t.in__Begin.size ≤ 2147483647) :
    Tri Try.prog 55 #[(vI .i64 ord), (vA #[(Value.string s.in__Begin), (Value.string s.in__End), (vB s.in__Point), (vI .i64 s.from_), (vI .i64 s.till)]), (vA #[(Value.string t.in__Begin), (Value.string t.in__End), (vB t.in__Point), (vI .i64 t.from_), (vI .i64 t.till)])] R [] (fun v__ post__ => v__ = (vB (sAhead ord s t)) ∧ post__ = []) := by
 refine Tri.into (n := 47) (al := [(vI .i64 ord), (vA #[(Value.string s.in__Begin), (Value.string s.in__End), (vB s.in__Point), (vI .i64 s.from_), (vI .i64 s.till)]), (vA #[(Value.string t.in__Begin), (Value.string t.in__End), (vB t.in__Point), (vI .i64 t.from_), (vI .i64 t.till)])]) Try.func55 rfl Try.ntmps55 rfl rfl fun w F H => ?_
 refine C_seq (fun K1_ hK1_ => C_reg ?_)
 refine S_list (T_box (v := (vA #[(Value.string s.in__Begin), (Value.string s.in__End), (vB s.in__Point), (vI .i64 s.from_), (vI .i64 s.till)])) rfl H ?_)
 intro b2_ w3_ S5_ H4_
 have S6_ := Same.trans (Same.refl w) S5_
 refine S_list (T_box (v := (vA #[(Value.string t.in__Begin), (Value.string t.in__End), (vB t.in__Point), (vI .i64 t.from_), (vI .i64 t.till)])) rfl H4_ ?_)
 intro b7_ w8_ S10_ H9_
 have S11_ := Same.trans S6_ S10_
 refine sv (v := (vB false)) (x_assign rfl) ?_
 refine wpList_nil (X_then (hK1_ _ _ ?_))
 clear hK1_
 refine C_seq (fun K12_ hK12_ => ?_)
 refine A_start (S := fun w => Rd b7_ [(Value.string t.in__Begin), (Value.string t.in__End), (vB t.in__Point), (vI .i64 t.from_), (vI .i64 t.till)] w ∧ Rd b2_ [(Value.string s.in__Begin), (Value.string s.in__End), (vB s.in__Point), (vI .i64 s.from_), (vI .i64 s.till)] w ∧ Sub R (hp w)) (N := 8) foll rfl rfl ?_
 have H13_ := Holds.drew_ H9_
 refine A_cut #[true, true, true, true, true, true, true, false] 1 (fun a__ w1__ => ∃ b28_ : Nat, ∃ b33_ : Nat, ∃ h : Env, a__ = mkA 47 (upd (upd (upd (upd (upd h 0 (vI .i64 ord)) 6 (vB false)) 7 (vQ b28_)) 8 (vQ b33_)) 13 (vA #[(Value.string ((SN.plain t).in__Begin)), (Value.string ((SN.plain t).in__End)), (vB ((SN.plain t).in__Point)), (vI .i64 ((SN.plain t).from_)), (vI .i64 ((SN.plain t).till))])) [] ∧ Holds w1__ (cl b33_ 44 [(Value.string ByteArray.empty), (Value.string ByteArray.empty), (vB false), (vI .i64 0), (vI .i64 0)] :: cl b28_ 44 [(Value.string ((SN.plain s).in__Begin)), (Value.string ((SN.plain s).in__End)), (vB ((SN.plain s).in__Point)), (vI .i64 ((SN.plain s).from_)), (vI .i64 ((SN.plain s).till))] :: ro R :: cl b7_ 44 [(Value.string t.in__Begin), (Value.string t.in__End), (vB t.in__Point), (vI .i64 t.from_), (vI .i64 t.till)] :: cl b2_ 44 [(Value.string s.in__Begin), (Value.string s.in__End), (vB s.in__Point), (vI .i64 s.from_), (vI .i64 s.till)] :: F) ∧ Same w w1__) ?_ ?_
 ·rintro _ w151_ ⟨b28_, b33_, h, rfl, H152_, S153_⟩
  refine A_ready (i := 7) (rs := []) (by kernel_rfl) ?_
  refine AllR.cons ?_ AllR.nil
  refine A_op0 (ls' := #[true, true, true, true, true, true, true, true]) rfl (by kernel_rfl) (T_storeN (vs := [(Value.string ((SN.plain t).in__Begin)), (Value.string ((SN.plain t).in__End)), (vB ((SN.plain t).in__Point)), (vI .i64 ((SN.plain t).from_)), (vI .i64 ((SN.plain t).till))]) rfl rfl z44 rfl (by simp [Value.oneCell']) H152_ 0 rfl (Nat.le_of_ble_eq_true (by rfl)) ?_)
  intro w154_ S156_ H155_
  have S157_ := Same.trans S153_ S156_
  refine ⟨⟨Holds.rd H155_ 3 rfl, Holds.rd H155_ 4 rfl, (Holds.ro_at H155_ 2 rfl)⟩, ?_⟩
  refine A_done (by kernel_rfl) ?_
  refine (X_then (hK12_ _ _ ?_))
  clear hK12_
  refine C_seq (fun K158_ hK158_ => C_reg ?_)
  refine sv (v := (vI .i64 ord)) (x_move rfl) ?_
  refine sv (v := (vQ b28_)) (by kernel_rfl) ?_
  refine sv (v := (vQ b28_)) (by kernel_rfl) ?_
  refine sv (v := (Value.string ((SN.plain s).in__Begin))) (x_load1 rfl Try.underlying9 rfl ((Holds.rd H155_ 1 rfl) 0 (Value.string ((SN.plain s).in__Begin)) rfl)) ?_
  refine sv (v := (vQ b33_)) (by kernel_rfl) ?_
  refine sv (v := (vQ b33_)) (by kernel_rfl) ?_
  refine sv (v := (Value.string ((SN.plain t).in__Begin))) (x_load1 rfl Try.underlying9 rfl ((Holds.rd H155_ 0 rfl) 0 (Value.string ((SN.plain t).in__Begin)) rfl)) ?_
  refine sv (v := (vP (some ⟨b28_, 3, none⟩))) (by kernel_rfl) ?_
  refine sv (v := (vI .i64 ((SN.plain s).from_))) (x_load1 rfl Try.underlying2 rfl ((Holds.rd H155_ 1 rfl) 3 (vI .i64 ((SN.plain s).from_)) rfl)) ?_
  refine sv (v := (vP (some ⟨b33_, 3, none⟩))) (by kernel_rfl) ?_
  refine sv (v := (vI .i64 ((SN.plain t).from_))) (x_load1 rfl Try.underlying2 rfl ((Holds.rd H155_ 0 rfl) 3 (vI .i64 ((SN.plain t).from_)) rfl)) ?_
  have H160_ := ((Holds.bring H155_ 2 rfl) :)
  refine S_list (T_call (al := [(vI .i64 ord), (Value.string ((SN.plain s).in__Begin)), (Value.string ((SN.plain t).in__Begin)), (vI .i64 ((SN.plain s).from_)), (vI .i64 ((SN.plain t).from_))]) (pre := []) rfl rfl cb77 (spEnds R ord ((SN.plain s).in__Begin) ((SN.plain t).in__Begin) ((SN.plain s).from_) ((SN.plain t).from_)) H160_ ?_)
  rintro v159_ p164_ w161_ ⟨rfl, rfl⟩ S163_ H162_
  have S165_ := Same.trans S157_ S163_
  refine sv (v := (vI .i64 (ecm ord (ek ord ((SN.plain s).in__Begin) ((SN.plain s).from_)) (ek ord ((SN.plain t).in__Begin) ((SN.plain t).from_))))) (x_assign rfl) ?_
  refine wpList_nil (X_then (hK158_ _ _ ?_))
  clear hK158_
  refine C_seq (fun K166_ hK166_ => C_reg ?_)
  refine sv (v := (vI .i64 (ecm ord (ek ord ((SN.plain s).in__Begin) ((SN.plain s).from_)) (ek ord ((SN.plain t).in__Begin) ((SN.plain t).from_))))) (x_move rfl) ?_
  refine sv (v := (vB (decide (ecm ord (ek ord ((SN.plain s).in__Begin) ((SN.plain s).from_)) (ek ord ((SN.plain t).in__Begin) ((SN.plain t).from_)) < 0)))) (x_bin rfl rfl rfl) ?_
  refine sv (v := (vB (decide (ecm ord (ek ord ((SN.plain s).in__Begin) ((SN.plain s).from_)) (ek ord ((SN.plain t).in__Begin) ((SN.plain t).from_)) < 0)))) (x_move rfl) ?_
  rcases Bool.eq_false_or_eq_true (decide (ecm ord (ek ord ((SN.plain s).in__Begin) ((SN.plain s).from_)) (ek ord ((SN.plain t).in__Begin) ((SN.plain t).from_)) < 0)) with c167_t | c167_f
  ·have c167_tp : ecm ord (ek ord ((SN.plain s).in__Begin) ((SN.plain s).from_)) (ek ord ((SN.plain t).in__Begin) ((SN.plain t).from_)) < 0 := of_decide_eq_true c167_t
   refine S_no (j := 2) (dj := 28) (b := true) rfl rfl (congrArg vB c167_t) (by decide) ?_
   refine S_no (j := 2) (dj := 28) (b := true) rfl rfl (congrArg vB c167_t) (by decide) ?_
   refine S_no (j := 2) (dj := 28) (b := true) rfl rfl (congrArg vB c167_t) (by decide) ?_
   refine S_noU (j := 5) (dj := 31) rfl rfl rfl ?_
   refine S_noU (j := 5) (dj := 31) rfl rfl rfl ?_
   refine S_noU (j := 5) (dj := 31) rfl rfl rfl ?_
   refine S_noU (j := 5) (dj := 31) rfl rfl rfl ?_
   refine S_noU (j := 5) (dj := 31) rfl rfl rfl ?_
   refine S_noU (j := 5) (dj := 31) rfl rfl rfl ?_
   refine S_noU (j := 5) (dj := 31) rfl rfl rfl ?_
   refine S_noU (j := 5) (dj := 31) rfl rfl rfl ?_
   refine S_noU (j := 5) (dj := 31) rfl rfl rfl ?_
   refine S_noU (j := 5) (dj := 31) rfl rfl rfl ?_
   refine S_noU (j := 5) (dj := 31) rfl rfl rfl ?_
   refine S_noU (j := 5) (dj := 31) rfl rfl rfl ?_
   refine S_noU (j := 5) (dj := 31) rfl rfl rfl ?_
   refine S_no (j := 2) (dj := 28) (b := true) rfl rfl (congrArg vB c167_t) (by decide) ?_
   refine S_list (T_pickT (v := (vB true)) (congrArg vB c167_t) rfl ?_)
   refine sv (v := (vB true)) (x_assign rfl) ?_
   refine wpList_nil (X_then (hK166_ _ _ ?_))
   clear hK166_
   refine C_ret ?_
   refine R_any (v := (vB true)) (run_results1 rfl rfl) ?_
   have H168_ : Holds w161_ (ro R :: F) := (Holds.pkF H162_ [0] 4 :)
   exact ⟨_, _, rfl, ⟨(congrArg vB ((by unfold sAhead SN.lo SN.hi; simp [c167_t]) : true = (sAhead ord s t))), rfl⟩, S165_, H168_⟩
  ·have c167_fp : ¬ (ecm ord (ek ord ((SN.plain s).in__Begin) ((SN.plain s).from_)) (ek ord ((SN.plain t).in__Begin) ((SN.plain t).from_)) < 0) := of_decide_eq_false c167_f
   refine S_yes (j := 2) (dj := 28) (b := false) rfl rfl (congrArg vB c167_f) (T_val (v := (vI .i64 (ecm ord (ek ord ((SN.plain s).in__Begin) ((SN.plain s).from_)) (ek ord ((SN.plain t).in__Begin) ((SN.plain t).from_))))) (x_move rfl) ?_)
   refine S_yes (j := 2) (dj := 28) (b := false) rfl rfl (congrArg vB c167_f) (T_val (v := (vB (decide (ecm ord (ek ord ((SN.plain s).in__Begin) ((SN.plain s).from_)) (ek ord ((SN.plain t).in__Begin) ((SN.plain t).from_)) = 0)))) (x_bin rfl rfl rfl) ?_)
   refine S_yes (j := 2) (dj := 28) (b := false) rfl rfl (congrArg vB c167_f) (T_val (v := (vB (decide (ecm ord (ek ord ((SN.plain s).in__Begin) ((SN.plain s).from_)) (ek ord ((SN.plain t).in__Begin) ((SN.plain t).from_)) = 0)))) (x_move rfl) ?_)
   rcases Bool.eq_false_or_eq_true (decide (ecm ord (ek ord ((SN.plain s).in__Begin) ((SN.plain s).from_)) (ek ord ((SN.plain t).in__Begin) ((SN.plain t).from_)) = 0)) with c169_t | c169_f
   ·have c169_tp : ecm ord (ek ord ((SN.plain s).in__Begin) ((SN.plain s).from_)) (ek ord ((SN.plain t).in__Begin) ((SN.plain t).from_)) = 0 := of_decide_eq_true c169_t
    refine S_yes (j := 5) (dj := 31) (b := true) rfl rfl (congrArg vB c169_t) (T_val (v := (vI .i64 ord)) (x_move rfl) ?_)
    refine S_yes (j := 5) (dj := 31) (b := true) rfl rfl (congrArg vB c169_t) (T_val (v := (vQ b28_)) (by kernel_rfl) ?_)
    refine S_yes (j := 5) (dj := 31) (b := true) rfl rfl (congrArg vB c169_t) (T_val (v := (vP (some ⟨b28_, 1, none⟩))) (by kernel_rfl) ?_)
    refine S_yes (j := 5) (dj := 31) (b := true) rfl rfl (congrArg vB c169_t) (T_val (v := (Value.string ((SN.plain s).in__End))) (x_load1 rfl Try.underlying9 rfl ((Holds.rd H162_ 2 rfl) 1 (Value.string ((SN.plain s).in__End)) rfl)) ?_)
    refine S_yes (j := 5) (dj := 31) (b := true) rfl rfl (congrArg vB c169_t) (T_val (v := (vQ b33_)) (by kernel_rfl) ?_)
    refine S_yes (j := 5) (dj := 31) (b := true) rfl rfl (congrArg vB c169_t) (T_val (v := (vP (some ⟨b33_, 1, none⟩))) (by kernel_rfl) ?_)
    refine S_yes (j := 5) (dj := 31) (b := true) rfl rfl (congrArg vB c169_t) (T_val (v := (Value.string ((SN.plain t).in__End))) (x_load1 rfl Try.underlying9 rfl ((Holds.rd H162_ 1 rfl) 1 (Value.string ((SN.plain t).in__End)) rfl)) ?_)
    refine S_yes (j := 5) (dj := 31) (b := true) rfl rfl (congrArg vB c169_t) (T_val (v := (vP (some ⟨b28_, 4, none⟩))) (by kernel_rfl) ?_)
    refine S_yes (j := 5) (dj := 31) (b := true) rfl rfl (congrArg vB c169_t) (T_val (v := (vI .i64 ((SN.plain s).till))) (x_load1 rfl Try.underlying2 rfl ((Holds.rd H162_ 2 rfl) 4 (vI .i64 ((SN.plain s).till)) rfl)) ?_)
    refine S_yes (j := 5) (dj := 31) (b := true) rfl rfl (congrArg vB c169_t) (T_val (v := (vP (some ⟨b33_, 4, none⟩))) (by kernel_rfl) ?_)
    refine S_yes (j := 5) (dj := 31) (b := true) rfl rfl (congrArg vB c169_t) (T_val (v := (vI .i64 ((SN.plain t).till))) (x_load1 rfl Try.underlying2 rfl ((Holds.rd H162_ 1 rfl) 4 (vI .i64 ((SN.plain t).till)) rfl)) ?_)
    refine S_yes (j := 5) (dj := 31) (b := true) rfl rfl (congrArg vB c169_t) (T_call (al := [(vI .i64 ord), (Value.string ((SN.plain s).in__End)), (Value.string ((SN.plain t).in__End)), (vI .i64 ((SN.plain s).till)), (vI .i64 ((SN.plain t).till))]) (pre := []) rfl rfl cb77 (spEnds R ord ((SN.plain s).in__End) ((SN.plain t).in__End) ((SN.plain s).till) ((SN.plain t).till)) H162_ ?_)
    rintro v170_ p174_ w171_ ⟨rfl, rfl⟩ S173_ H172_
    have S175_ := Same.trans S165_ S173_
    refine S_yes (j := 5) (dj := 31) (b := true) rfl rfl (congrArg vB c169_t) (T_val (v := (vB (decide (ecm ord (ek ord ((SN.plain s).in__End) ((SN.plain s).till)) (ek ord ((SN.plain t).in__End) ((SN.plain t).till)) < 0)))) (x_bin rfl rfl rfl) ?_)
    refine S_yes (j := 2) (dj := 28) (b := false) rfl rfl (congrArg vB c167_f) (T_pickT (v := (vB (decide (ecm ord (ek ord ((SN.plain s).in__End) ((SN.plain s).till)) (ek ord ((SN.plain t).in__End) ((SN.plain t).till)) < 0)))) (congrArg vB c169_t) rfl ?_)
    refine S_list (T_pickF (v := (vB (decide (ecm ord (ek ord ((SN.plain s).in__End) ((SN.plain s).till)) (ek ord ((SN.plain t).in__End) ((SN.plain t).till)) < 0)))) (congrArg vB c167_f) rfl ?_)
    refine sv (v := (vB (decide (ecm ord (ek ord ((SN.plain s).in__End) ((SN.plain s).till)) (ek ord ((SN.plain t).in__End) ((SN.plain t).till)) < 0)))) (x_assign rfl) ?_
    refine wpList_nil (X_then (hK166_ _ _ ?_))
    clear hK166_
    refine C_ret ?_
    refine R_any (v := (vB (decide (ecm ord (ek ord ((SN.plain s).in__End) ((SN.plain s).till)) (ek ord ((SN.plain t).in__End) ((SN.plain t).till)) < 0)))) (run_results1 rfl rfl) ?_
    have H176_ : Holds w171_ (ro R :: F) := (Holds.pkF H172_ [0] 4 :)
    exact ⟨_, _, rfl, ⟨(congrArg vB ((by unfold sAhead SN.lo SN.hi; simp [c167_f, c169_t]) : (decide (ecm ord (ek ord ((SN.plain s).in__End) ((SN.plain s).till)) (ek ord ((SN.plain t).in__End) ((SN.plain t).till)) < 0)) = (sAhead ord s t))), rfl⟩, S175_, H176_⟩
   ·have c169_fp : ¬ (ecm ord (ek ord ((SN.plain s).in__Begin) ((SN.plain s).from_)) (ek ord ((SN.plain t).in__Begin) ((SN.plain t).from_)) = 0) := of_decide_eq_false c169_f
    refine S_no (j := 5) (dj := 31) (b := false) rfl rfl (congrArg vB c169_f) (by decide) ?_
    refine S_no (j := 5) (dj := 31) (b := false) rfl rfl (congrArg vB c169_f) (by decide) ?_
    refine S_no (j := 5) (dj := 31) (b := false) rfl rfl (congrArg vB c169_f) (by decide) ?_
    refine S_no (j := 5) (dj := 31) (b := false) rfl rfl (congrArg vB c169_f) (by decide) ?_
    refine S_no (j := 5) (dj := 31) (b := false) rfl rfl (congrArg vB c169_f) (by decide) ?_
    refine S_no (j := 5) (dj := 31) (b := false) rfl rfl (congrArg vB c169_f) (by decide) ?_
    refine S_no (j := 5) (dj := 31) (b := false) rfl rfl (congrArg vB c169_f) (by decide) ?_
    refine S_no (j := 5) (dj := 31) (b := false) rfl rfl (congrArg vB c169_f) (by decide) ?_
    refine S_no (j := 5) (dj := 31) (b := false) rfl rfl (congrArg vB c169_f) (by decide) ?_
    refine S_no (j := 5) (dj := 31) (b := false) rfl rfl (congrArg vB c169_f) (by decide) ?_
    refine S_no (j := 5) (dj := 31) (b := false) rfl rfl (congrArg vB c169_f) (by decide) ?_
    refine S_no (j := 5) (dj := 31) (b := false) rfl rfl (congrArg vB c169_f) (by decide) ?_
    refine S_no (j := 5) (dj := 31) (b := false) rfl rfl (congrArg vB c169_f) (by decide) ?_
    refine S_yes (j := 2) (dj := 28) (b := false) rfl rfl (congrArg vB c167_f) (T_pickF (v := (vB false)) (congrArg vB c169_f) rfl ?_)
    refine S_list (T_pickF (v := (vB false)) (congrArg vB c167_f) rfl ?_)
    refine sv (v := (vB false)) (x_assign rfl) ?_
    refine wpList_nil (X_then (hK166_ _ _ ?_))
    clear hK166_
    refine C_ret ?_
    refine R_any (v := (vB false)) (run_results1 rfl rfl) ?_
    have H177_ : Holds w161_ (ro R :: F) := (Holds.pkF H162_ [0] 4 :)
    exact ⟨_, _, rfl, ⟨(congrArg vB ((by unfold sAhead SN.lo SN.hi; simp [c167_f, c169_f]) : false = (sAhead ord s t))), rfl⟩, S165_, H177_⟩
 intro hJ143
 refine A_cut #[true, true, true, true, true, true, false, false] 2 (fun a__ w1__ => ∃ b28_ : Nat, ∃ b33_ : Nat, ∃ h : Env, a__ = mkA 47 (upd (upd (upd (upd (upd (upd h 0 (vI .i64 ord)) 6 (vB false)) 7 (vQ b28_)) 8 (vQ b33_)) 11 (vA #[(Value.string ((SN.plain s).in__Begin)), (Value.string ((SN.plain s).in__End)), (vB ((SN.plain s).in__Point)), (vI .i64 ((SN.plain s).from_)), (vI .i64 ((SN.plain s).till))])) 13 (vA #[(Value.string ((SN.plain t).in__Begin)), (Value.string ((SN.plain t).in__End)), (vB ((SN.plain t).in__Point)), (vI .i64 ((SN.plain t).from_)), (vI .i64 ((SN.plain t).till))])) [] ∧ Holds w1__ (cl b33_ 44 [(Value.string ByteArray.empty), (Value.string ByteArray.empty), (vB false), (vI .i64 0), (vI .i64 0)] :: cl b28_ 44 [(Value.string ByteArray.empty), (Value.string ByteArray.empty), (vB false), (vI .i64 0), (vI .i64 0)] :: ro R :: cl b7_ 44 [(Value.string t.in__Begin), (Value.string t.in__End), (vB t.in__Point), (vI .i64 t.from_), (vI .i64 t.till)] :: cl b2_ 44 [(Value.string s.in__Begin), (Value.string s.in__End), (vB s.in__Point), (vI .i64 s.from_), (vI .i64 s.till)] :: F) ∧ Same w w1__) ?_ ?_
 ·rintro _ w178_ ⟨b28_, b33_, h, rfl, H179_, S180_⟩
  refine A_ready (i := 6) (rs := []) (by kernel_rfl) ?_
  refine AllR.cons ?_ AllR.nil
  refine A_op0 (ls' := #[true, true, true, true, true, true, true, false]) rfl (by kernel_rfl) (T_storeN (vs := [(Value.string ((SN.plain s).in__Begin)), (Value.string ((SN.plain s).in__End)), (vB ((SN.plain s).in__Point)), (vI .i64 ((SN.plain s).from_)), (vI .i64 ((SN.plain s).till))]) rfl rfl z44 rfl (by simp [Value.oneCell']) H179_ 1 rfl (Nat.le_of_ble_eq_true (by rfl)) ?_)
  intro w181_ S183_ H182_
  have S184_ := Same.trans S180_ S183_
  refine ⟨⟨Holds.rd H182_ 3 rfl, Holds.rd H182_ 4 rfl, (Holds.ro_at H182_ 2 rfl)⟩, ?_⟩
  exact hJ143 _ _ ⟨b28_, b33_, _, congrArg (fun e => mkA 47 e []) (ch (ch (ch (ch (ch rfl rfl) rfl) rfl) rfl) rfl), H182_, S184_⟩
 intro hJ142
 refine A_cut #[true, true, true, true, true, false, false, false] 3 (fun a__ w1__ => ∃ b28_ : Nat, ∃ h : Env, a__ = mkA 47 (upd (upd (upd (upd (upd h 0 (vI .i64 ord)) 6 (vB false)) 7 (vQ b28_)) 11 (vA #[(Value.string ((SN.plain s).in__Begin)), (Value.string ((SN.plain s).in__End)), (vB ((SN.plain s).in__Point)), (vI .i64 ((SN.plain s).from_)), (vI .i64 ((SN.plain s).till))])) 13 (vA #[(Value.string ((SN.plain t).in__Begin)), (Value.string ((SN.plain t).in__End)), (vB ((SN.plain t).in__Point)), (vI .i64 ((SN.plain t).from_)), (vI .i64 ((SN.plain t).till))])) [] ∧ Holds w1__ (cl b28_ 44 [(Value.string ByteArray.empty), (Value.string ByteArray.empty), (vB false), (vI .i64 0), (vI .i64 0)] :: ro R :: cl b7_ 44 [(Value.string t.in__Begin), (Value.string t.in__End), (vB t.in__Point), (vI .i64 t.from_), (vI .i64 t.till)] :: cl b2_ 44 [(Value.string s.in__Begin), (Value.string s.in__End), (vB s.in__Point), (vI .i64 s.from_), (vI .i64 s.till)] :: F) ∧ Same w w1__) ?_ ?_
 ·rintro _ w185_ ⟨b28_, h, rfl, H186_, S187_⟩
  refine A_ready (i := 5) (rs := []) (by kernel_rfl) ?_
  refine AllR.cons ?_ AllR.nil
  refine A_op (ls' := #[true, true, true, true, true, true, false, false]) rfl (by kernel_rfl) (T_alloc z44 H186_ ?_)
  intro b188_ w189_ S191_ H190_
  have S192_ := Same.trans S187_ S191_
  refine ⟨⟨Holds.rd H190_ 3 rfl, Holds.rd H190_ 4 rfl, (Holds.ro_at H190_ 2 rfl)⟩, ?_⟩
  exact hJ142 _ _ ⟨b28_, b188_, _, congrArg (fun e => mkA 47 e []) (ch (ch (ch (ch (ch (ch rfl rfl) rfl) rfl) rfl) rfl) rfl), H190_, S192_⟩
 intro hJ141
 refine A_cut #[true, true, true, true, false, true, false, false] 3 (fun a__ w1__ => ∃ b46_ : Nat, ∃ h : Env, a__ = mkA 47 (upd (upd (upd (upd (upd h 0 (vI .i64 ord)) 6 (vB false)) 8 (vQ b46_)) 11 (vA #[(Value.string ((SN.plain s).in__Begin)), (Value.string ((SN.plain s).in__End)), (vB ((SN.plain s).in__Point)), (vI .i64 ((SN.plain s).from_)), (vI .i64 ((SN.plain s).till))])) 13 (vA #[(Value.string ((SN.plain t).in__Begin)), (Value.string ((SN.plain t).in__End)), (vB ((SN.plain t).in__Point)), (vI .i64 ((SN.plain t).from_)), (vI .i64 ((SN.plain t).till))])) [] ∧ Holds w1__ (cl b46_ 44 [(Value.string ByteArray.empty), (Value.string ByteArray.empty), (vB false), (vI .i64 0), (vI .i64 0)] :: ro R :: cl b7_ 44 [(Value.string t.in__Begin), (Value.string t.in__End), (vB t.in__Point), (vI .i64 t.from_), (vI .i64 t.till)] :: cl b2_ 44 [(Value.string s.in__Begin), (Value.string s.in__End), (vB s.in__Point), (vI .i64 s.from_), (vI .i64 s.till)] :: F) ∧ Same w w1__) ?_ ?_
 ·rintro _ w193_ ⟨b46_, h, rfl, H194_, S195_⟩
  refine A_ready (i := 4) (rs := []) (by kernel_rfl) ?_
  refine AllR.cons ?_ AllR.nil
  refine A_op (ls' := #[true, true, true, true, true, true, false, false]) rfl (by kernel_rfl) (T_alloc z44 H194_ ?_)
  intro b196_ w197_ S199_ H198_
  have S200_ := Same.trans S195_ S199_
  refine ⟨⟨Holds.rd H198_ 3 rfl, Holds.rd H198_ 4 rfl, (Holds.ro_at H198_ 2 rfl)⟩, ?_⟩
  have H201_ : Holds w197_ (cl b46_ 44 [(Value.string ByteArray.empty), (Value.string ByteArray.empty), (vB false), (vI .i64 0), (vI .i64 0)] :: cl b196_ 44 [(Value.string ByteArray.empty), (Value.string ByteArray.empty), (vB false), (vI .i64 0), (vI .i64 0)] :: ro R :: cl b7_ 44 [(Value.string t.in__Begin), (Value.string t.in__End), (vB t.in__Point), (vI .i64 t.from_), (vI .i64 t.till)] :: cl b2_ 44 [(Value.string s.in__Begin), (Value.string s.in__End), (vB s.in__Point), (vI .i64 s.from_), (vI .i64 s.till)] :: F) := (Holds.pkF H198_ [1, 0, 0, 0, 0] 0 :)
  exact hJ142 _ _ ⟨b196_, b46_, _, congrArg (fun e => mkA 47 e []) (ch (ch (ch (ch (ch (ch rfl rfl) rfl) rfl) rfl) rfl) rfl), H201_, S200_⟩
 intro hJ144
 refine A_cut #[true, true, true, false, true, true, false, false] 3 (fun a__ w1__ => ∃ b56_ : Nat, ∃ b68_ : Nat, ∃ h : Env, a__ = mkA 47 (upd (upd (upd (upd (upd (upd h 0 (vI .i64 ord)) 6 (vB false)) 7 (vQ b56_)) 8 (vQ b68_)) 11 (vA #[(Value.string ((SN.plain s).in__Begin)), (Value.string ((SN.plain s).in__End)), (vB ((SN.plain s).in__Point)), (vI .i64 ((SN.plain s).from_)), (vI .i64 ((SN.plain s).till))])) 12 (vA #[(Value.string t.in__Begin), (Value.string t.in__End), (vB t.in__Point), (vI .i64 t.from_), (vI .i64 t.till)])) [] ∧ Holds w1__ (cl b68_ 44 [(Value.string ByteArray.empty), (Value.string ByteArray.empty), (vB false), (vI .i64 0), (vI .i64 0)] :: cl b56_ 44 [(Value.string ByteArray.empty), (Value.string ByteArray.empty), (vB false), (vI .i64 0), (vI .i64 0)] :: ro R :: cl b7_ 44 [(Value.string t.in__Begin), (Value.string t.in__End), (vB t.in__Point), (vI .i64 t.from_), (vI .i64 t.till)] :: cl b2_ 44 [(Value.string s.in__Begin), (Value.string s.in__End), (vB s.in__Point), (vI .i64 s.from_), (vI .i64 s.till)] :: F) ∧ Same w w1__) ?_ ?_
 ·rintro _ w202_ ⟨b56_, b68_, h, rfl, H203_, S204_⟩
  refine A_ready (i := 3) (rs := []) (by kernel_rfl) ?_
  refine AllR.cons ?_ AllR.nil
  have H206_ := ((Holds.bring H203_ 2 rfl) :)
  refine A_op (ls' := #[true, true, true, true, true, true, false, false]) rfl (by kernel_rfl) (T_call (al := [(vA #[(Value.string t.in__Begin), (Value.string t.in__End), (vB t.in__Point), (vI .i64 t.from_), (vI .i64 t.till)])]) (pre := []) rfl rfl cb76 (spPlain R t (by first | assumption | omega)) H206_ ?_)
  rintro v205_ p210_ w207_ ⟨rfl, rfl⟩ S209_ H208_
  have S211_ := Same.trans S204_ S209_
  refine ⟨⟨Holds.rd H208_ 3 rfl, Holds.rd H208_ 4 rfl, (Holds.ro_at H208_ 0 rfl)⟩, ?_⟩
  have H212_ : Holds w207_ (cl b68_ 44 [(Value.string ByteArray.empty), (Value.string ByteArray.empty), (vB false), (vI .i64 0), (vI .i64 0)] :: cl b56_ 44 [(Value.string ByteArray.empty), (Value.string ByteArray.empty), (vB false), (vI .i64 0), (vI .i64 0)] :: ro R :: cl b7_ 44 [(Value.string t.in__Begin), (Value.string t.in__End), (vB t.in__Point), (vI .i64 t.from_), (vI .i64 t.till)] :: cl b2_ 44 [(Value.string s.in__Begin), (Value.string s.in__End), (vB s.in__Point), (vI .i64 s.from_), (vI .i64 s.till)] :: F) := (Holds.pkF H208_ [1, 1, 0, 0, 0] 0 :)
  exact hJ142 _ _ ⟨b56_, b68_, _, congrArg (fun e => mkA 47 e []) (ch (ch (ch (ch (ch (ch rfl rfl) rfl) rfl) rfl) rfl) rfl), H212_, S211_⟩
 intro hJ146
 refine A_cut #[true, true, true, true, false, false, false, false] 4 (fun a__ w1__ => ∃ h : Env, a__ = mkA 47 (upd (upd (upd (upd h 0 (vI .i64 ord)) 6 (vB false)) 11 (vA #[(Value.string ((SN.plain s).in__Begin)), (Value.string ((SN.plain s).in__End)), (vB ((SN.plain s).in__Point)), (vI .i64 ((SN.plain s).from_)), (vI .i64 ((SN.plain s).till))])) 13 (vA #[(Value.string ((SN.plain t).in__Begin)), (Value.string ((SN.plain t).in__End)), (vB ((SN.plain t).in__Point)), (vI .i64 ((SN.plain t).from_)), (vI .i64 ((SN.plain t).till))])) [] ∧ Holds w1__ (ro R :: cl b7_ 44 [(Value.string t.in__Begin), (Value.string t.in__End), (vB t.in__Point), (vI .i64 t.from_), (vI .i64 t.till)] :: cl b2_ 44 [(Value.string s.in__Begin), (Value.string s.in__End), (vB s.in__Point), (vI .i64 s.from_), (vI .i64 s.till)] :: F) ∧ Same w w1__) ?_ ?_
 ·rintro _ w213_ ⟨h, rfl, H214_, S215_⟩
  refine A_ready (i := 4) (rs := [5]) (by kernel_rfl) ?_
  refine AllR.cons ?_ ?_
  ·skip
   refine A_op (ls' := #[true, true, true, true, true, false, false, false]) rfl (by kernel_rfl) (T_alloc z44 H214_ ?_)
   intro b216_ w217_ S219_ H218_
   have S220_ := Same.trans S215_ S219_
   refine ⟨⟨Holds.rd H218_ 2 rfl, Holds.rd H218_ 3 rfl, (Holds.ro_at H218_ 1 rfl)⟩, ?_⟩
   exact hJ141 _ _ ⟨b216_, _, congrArg (fun e => mkA 47 e []) (ch (ch (ch (ch (ch rfl rfl) rfl) rfl) rfl) rfl), H218_, S220_⟩
  refine AllR.cons ?_ AllR.nil
  refine A_op (ls' := #[true, true, true, true, false, true, false, false]) rfl (by kernel_rfl) (T_alloc z44 H214_ ?_)
  intro b221_ w222_ S224_ H223_
  have S225_ := Same.trans S215_ S224_
  refine ⟨⟨Holds.rd H223_ 2 rfl, Holds.rd H223_ 3 rfl, (Holds.ro_at H223_ 1 rfl)⟩, ?_⟩
  exact hJ144 _ _ ⟨b221_, _, congrArg (fun e => mkA 47 e []) (ch (ch (ch (ch (ch rfl rfl) rfl) rfl) rfl) rfl), H223_, S225_⟩
 intro hJ140
 refine A_cut #[true, true, true, false, true, false, false, false] 4 (fun a__ w1__ => ∃ b56_ : Nat, ∃ h : Env, a__ = mkA 47 (upd (upd (upd (upd (upd h 0 (vI .i64 ord)) 6 (vB false)) 7 (vQ b56_)) 11 (vA #[(Value.string ((SN.plain s).in__Begin)), (Value.string ((SN.plain s).in__End)), (vB ((SN.plain s).in__Point)), (vI .i64 ((SN.plain s).from_)), (vI .i64 ((SN.plain s).till))])) 12 (vA #[(Value.string t.in__Begin), (Value.string t.in__End), (vB t.in__Point), (vI .i64 t.from_), (vI .i64 t.till)])) [] ∧ Holds w1__ (cl b56_ 44 [(Value.string ByteArray.empty), (Value.string ByteArray.empty), (vB false), (vI .i64 0), (vI .i64 0)] :: ro R :: cl b7_ 44 [(Value.string t.in__Begin), (Value.string t.in__End), (vB t.in__Point), (vI .i64 t.from_), (vI .i64 t.till)] :: cl b2_ 44 [(Value.string s.in__Begin), (Value.string s.in__End), (vB s.in__Point), (vI .i64 s.from_), (vI .i64 s.till)] :: F) ∧ Same w w1__) ?_ ?_
 ·rintro _ w226_ ⟨b56_, h, rfl, H227_, S228_⟩
  refine A_ready (i := 3) (rs := [5]) (by kernel_rfl) ?_
  refine AllR.cons ?_ ?_
  ·skip
   have H230_ := ((Holds.bring H227_ 1 rfl) :)
   refine A_op (ls' := #[true, true, true, true, true, false, false, false]) rfl (by kernel_rfl) (T_call (al := [(vA #[(Value.string t.in__Begin), (Value.string t.in__End), (vB t.in__Point), (vI .i64 t.from_), (vI .i64 t.till)])]) (pre := []) rfl rfl cb76 (spPlain R t (by first | assumption | omega)) H230_ ?_)
   rintro v229_ p234_ w231_ ⟨rfl, rfl⟩ S233_ H232_
   have S235_ := Same.trans S228_ S233_
   refine ⟨⟨Holds.rd H232_ 2 rfl, Holds.rd H232_ 3 rfl, (Holds.ro_at H232_ 0 rfl)⟩, ?_⟩
   have H236_ : Holds w231_ (cl b56_ 44 [(Value.string ByteArray.empty), (Value.string ByteArray.empty), (vB false), (vI .i64 0), (vI .i64 0)] :: ro R :: cl b7_ 44 [(Value.string t.in__Begin), (Value.string t.in__End), (vB t.in__Point), (vI .i64 t.from_), (vI .i64 t.till)] :: cl b2_ 44 [(Value.string s.in__Begin), (Value.string s.in__End), (vB s.in__Point), (vI .i64 s.from_), (vI .i64 s.till)] :: F) := (Holds.pkF H232_ [1, 0, 0, 0] 0 :)
   exact hJ141 _ _ ⟨b56_, _, congrArg (fun e => mkA 47 e []) (ch (ch (ch (ch (ch rfl rfl) rfl) rfl) rfl) rfl), H236_, S235_⟩
  refine AllR.cons ?_ AllR.nil
  refine A_op (ls' := #[true, true, true, false, true, true, false, false]) rfl (by kernel_rfl) (T_alloc z44 H227_ ?_)
  intro b237_ w238_ S240_ H239_
  have S241_ := Same.trans S228_ S240_
  refine ⟨⟨Holds.rd H239_ 3 rfl, Holds.rd H239_ 4 rfl, (Holds.ro_at H239_ 2 rfl)⟩, ?_⟩
  exact hJ146 _ _ ⟨b56_, b237_, _, congrArg (fun e => mkA 47 e []) (ch (ch (ch (ch (ch (ch rfl rfl) rfl) rfl) rfl) rfl) rfl), H239_, S241_⟩
 intro hJ145
 refine A_cut #[true, true, true, false, false, true, false, false] 4 (fun a__ w1__ => ∃ b80_ : Nat, ∃ h : Env, a__ = mkA 47 (upd (upd (upd (upd (upd h 0 (vI .i64 ord)) 6 (vB false)) 8 (vQ b80_)) 11 (vA #[(Value.string ((SN.plain s).in__Begin)), (Value.string ((SN.plain s).in__End)), (vB ((SN.plain s).in__Point)), (vI .i64 ((SN.plain s).from_)), (vI .i64 ((SN.plain s).till))])) 12 (vA #[(Value.string t.in__Begin), (Value.string t.in__End), (vB t.in__Point), (vI .i64 t.from_), (vI .i64 t.till)])) [] ∧ Holds w1__ (cl b80_ 44 [(Value.string ByteArray.empty), (Value.string ByteArray.empty), (vB false), (vI .i64 0), (vI .i64 0)] :: ro R :: cl b7_ 44 [(Value.string t.in__Begin), (Value.string t.in__End), (vB t.in__Point), (vI .i64 t.from_), (vI .i64 t.till)] :: cl b2_ 44 [(Value.string s.in__Begin), (Value.string s.in__End), (vB s.in__Point), (vI .i64 s.from_), (vI .i64 s.till)] :: F) ∧ Same w w1__) ?_ ?_
 ·rintro _ w242_ ⟨b80_, h, rfl, H243_, S244_⟩
  refine A_ready (i := 3) (rs := [4]) (by kernel_rfl) ?_
  refine AllR.cons ?_ ?_
  ·skip
   have H246_ := ((Holds.bring H243_ 1 rfl) :)
   refine A_op (ls' := #[true, true, true, true, false, true, false, false]) rfl (by kernel_rfl) (T_call (al := [(vA #[(Value.string t.in__Begin), (Value.string t.in__End), (vB t.in__Point), (vI .i64 t.from_), (vI .i64 t.till)])]) (pre := []) rfl rfl cb76 (spPlain R t (by first | assumption | omega)) H246_ ?_)
   rintro v245_ p250_ w247_ ⟨rfl, rfl⟩ S249_ H248_
   have S251_ := Same.trans S244_ S249_
   refine ⟨⟨Holds.rd H248_ 2 rfl, Holds.rd H248_ 3 rfl, (Holds.ro_at H248_ 0 rfl)⟩, ?_⟩
   have H252_ : Holds w247_ (cl b80_ 44 [(Value.string ByteArray.empty), (Value.string ByteArray.empty), (vB false), (vI .i64 0), (vI .i64 0)] :: ro R :: cl b7_ 44 [(Value.string t.in__Begin), (Value.string t.in__End), (vB t.in__Point), (vI .i64 t.from_), (vI .i64 t.till)] :: cl b2_ 44 [(Value.string s.in__Begin), (Value.string s.in__End), (vB s.in__Point), (vI .i64 s.from_), (vI .i64 s.till)] :: F) := (Holds.pkF H248_ [1, 0, 0, 0] 0 :)
   exact hJ144 _ _ ⟨b80_, _, congrArg (fun e => mkA 47 e []) (ch (ch (ch (ch (ch rfl rfl) rfl) rfl) rfl) rfl), H252_, S251_⟩
  refine AllR.cons ?_ AllR.nil
  refine A_op (ls' := #[true, true, true, false, true, true, false, false]) rfl (by kernel_rfl) (T_alloc z44 H243_ ?_)
  intro b253_ w254_ S256_ H255_
  have S257_ := Same.trans S244_ S256_
  refine ⟨⟨Holds.rd H255_ 3 rfl, Holds.rd H255_ 4 rfl, (Holds.ro_at H255_ 2 rfl)⟩, ?_⟩
  have H258_ : Holds w254_ (cl b80_ 44 [(Value.string ByteArray.empty), (Value.string ByteArray.empty), (vB false), (vI .i64 0), (vI .i64 0)] :: cl b253_ 44 [(Value.string ByteArray.empty), (Value.string ByteArray.empty), (vB false), (vI .i64 0), (vI .i64 0)] :: ro R :: cl b7_ 44 [(Value.string t.in__Begin), (Value.string t.in__End), (vB t.in__Point), (vI .i64 t.from_), (vI .i64 t.till)] :: cl b2_ 44 [(Value.string s.in__Begin), (Value.string s.in__End), (vB s.in__Point), (vI .i64 s.from_), (vI .i64 s.till)] :: F) := (Holds.pkF H255_ [1, 0, 0, 0, 0] 0 :)
  exact hJ146 _ _ ⟨b253_, b80_, _, congrArg (fun e => mkA 47 e []) (ch (ch (ch (ch (ch (ch rfl rfl) rfl) rfl) rfl) rfl) rfl), H258_, S257_⟩
 intro hJ147
 refine A_cut #[true, false, true, false, true, true, false, false] 4 (fun a__ w1__ => ∃ b97_ : Nat, ∃ b109_ : Nat, ∃ h : Env, a__ = mkA 47 (upd (upd (upd (upd (upd (upd h 0 (vI .i64 ord)) 6 (vB false)) 7 (vQ b97_)) 8 (vQ b109_)) 10 (vA #[(Value.string s.in__Begin), (Value.string s.in__End), (vB s.in__Point), (vI .i64 s.from_), (vI .i64 s.till)])) 12 (vA #[(Value.string t.in__Begin), (Value.string t.in__End), (vB t.in__Point), (vI .i64 t.from_), (vI .i64 t.till)])) [] ∧ Holds w1__ (cl b109_ 44 [(Value.string ByteArray.empty), (Value.string ByteArray.empty), (vB false), (vI .i64 0), (vI .i64 0)] :: cl b97_ 44 [(Value.string ByteArray.empty), (Value.string ByteArray.empty), (vB false), (vI .i64 0), (vI .i64 0)] :: cl b7_ 44 [(Value.string t.in__Begin), (Value.string t.in__End), (vB t.in__Point), (vI .i64 t.from_), (vI .i64 t.till)] :: cl b2_ 44 [(Value.string s.in__Begin), (Value.string s.in__End), (vB s.in__Point), (vI .i64 s.from_), (vI .i64 s.till)] :: ro R :: F) ∧ Same w w1__) ?_ ?_
 ·rintro _ w259_ ⟨b97_, b109_, h, rfl, H260_, S261_⟩
  refine A_ready (i := 1) (rs := []) (by kernel_rfl) ?_
  refine AllR.cons ?_ AllR.nil
  have H263_ := ((Holds.bring H260_ 4 rfl) :)
  refine A_op (ls' := #[true, true, true, false, true, true, false, false]) rfl (by kernel_rfl) (T_call (al := [(vA #[(Value.string s.in__Begin), (Value.string s.in__End), (vB s.in__Point), (vI .i64 s.from_), (vI .i64 s.till)])]) (pre := []) rfl rfl cb76 (spPlain R s (by first | assumption | omega)) H263_ ?_)
  rintro v262_ p267_ w264_ ⟨rfl, rfl⟩ S266_ H265_
  have S268_ := Same.trans S261_ S266_
  refine ⟨⟨Holds.rd H265_ 3 rfl, Holds.rd H265_ 4 rfl, (Holds.ro_at H265_ 0 rfl)⟩, ?_⟩
  have H269_ : Holds w264_ (cl b109_ 44 [(Value.string ByteArray.empty), (Value.string ByteArray.empty), (vB false), (vI .i64 0), (vI .i64 0)] :: cl b97_ 44 [(Value.string ByteArray.empty), (Value.string ByteArray.empty), (vB false), (vI .i64 0), (vI .i64 0)] :: ro R :: cl b7_ 44 [(Value.string t.in__Begin), (Value.string t.in__End), (vB t.in__Point), (vI .i64 t.from_), (vI .i64 t.till)] :: cl b2_ 44 [(Value.string s.in__Begin), (Value.string s.in__End), (vB s.in__Point), (vI .i64 s.from_), (vI .i64 s.till)] :: F) := (Holds.pkF H265_ [1, 1, 0, 0, 0] 0 :)
  exact hJ146 _ _ ⟨b97_, b109_, _, congrArg (fun e => mkA 47 e []) (ch (ch (ch (ch (ch (ch rfl rfl) rfl) rfl) rfl) rfl) rfl), H269_, S268_⟩
 intro hJ149
 refine A_cut #[true, true, true, false, false, false, false, false] 5 (fun a__ w1__ => ∃ h : Env, a__ = mkA 47 (upd (upd (upd (upd h 0 (vI .i64 ord)) 6 (vB false)) 11 (vA #[(Value.string ((SN.plain s).in__Begin)), (Value.string ((SN.plain s).in__End)), (vB ((SN.plain s).in__Point)), (vI .i64 ((SN.plain s).from_)), (vI .i64 ((SN.plain s).till))])) 12 (vA #[(Value.string t.in__Begin), (Value.string t.in__End), (vB t.in__Point), (vI .i64 t.from_), (vI .i64 t.till)])) [] ∧ Holds w1__ (ro R :: cl b7_ 44 [(Value.string t.in__Begin), (Value.string t.in__End), (vB t.in__Point), (vI .i64 t.from_), (vI .i64 t.till)] :: cl b2_ 44 [(Value.string s.in__Begin), (Value.string s.in__End), (vB s.in__Point), (vI .i64 s.from_), (vI .i64 s.till)] :: F) ∧ Same w w1__) ?_ ?_
 ·rintro _ w270_ ⟨h, rfl, H271_, S272_⟩
  refine A_ready (i := 3) (rs := [4, 5]) (by kernel_rfl) ?_
  refine AllR.cons ?_ ?_
  ·skip
   refine A_op (ls' := #[true, true, true, true, false, false, false, false]) rfl (by kernel_rfl) (T_call (al := [(vA #[(Value.string t.in__Begin), (Value.string t.in__End), (vB t.in__Point), (vI .i64 t.from_), (vI .i64 t.till)])]) (pre := []) rfl rfl cb76 (spPlain R t (by first | assumption | omega)) H271_ ?_)
   rintro v273_ p277_ w274_ ⟨rfl, rfl⟩ S276_ H275_
   have S278_ := Same.trans S272_ S276_
   refine ⟨⟨Holds.rd H275_ 1 rfl, Holds.rd H275_ 2 rfl, (Holds.ro_at H275_ 0 rfl)⟩, ?_⟩
   exact hJ140 _ _ ⟨_, congrArg (fun e => mkA 47 e []) (ch (ch (ch (ch rfl rfl) rfl) rfl) rfl), H275_, S278_⟩
  refine AllR.cons ?_ ?_
  ·skip
   refine A_op (ls' := #[true, true, true, false, true, false, false, false]) rfl (by kernel_rfl) (T_alloc z44 H271_ ?_)
   intro b279_ w280_ S282_ H281_
   have S283_ := Same.trans S272_ S282_
   refine ⟨⟨Holds.rd H281_ 2 rfl, Holds.rd H281_ 3 rfl, (Holds.ro_at H281_ 1 rfl)⟩, ?_⟩
   exact hJ145 _ _ ⟨b279_, _, congrArg (fun e => mkA 47 e []) (ch (ch (ch (ch (ch rfl rfl) rfl) rfl) rfl) rfl), H281_, S283_⟩
  refine AllR.cons ?_ AllR.nil
  refine A_op (ls' := #[true, true, true, false, false, true, false, false]) rfl (by kernel_rfl) (T_alloc z44 H271_ ?_)
  intro b284_ w285_ S287_ H286_
  have S288_ := Same.trans S272_ S287_
  refine ⟨⟨Holds.rd H286_ 2 rfl, Holds.rd H286_ 3 rfl, (Holds.ro_at H286_ 1 rfl)⟩, ?_⟩
  exact hJ147 _ _ ⟨b284_, _, congrArg (fun e => mkA 47 e []) (ch (ch (ch (ch (ch rfl rfl) rfl) rfl) rfl) rfl), H286_, S288_⟩
 intro hJ139
 refine A_cut #[true, false, true, false, true, false, false, false] 5 (fun a__ w1__ => ∃ b97_ : Nat, ∃ h : Env, a__ = mkA 47 (upd (upd (upd (upd (upd h 0 (vI .i64 ord)) 6 (vB false)) 7 (vQ b97_)) 10 (vA #[(Value.string s.in__Begin), (Value.string s.in__End), (vB s.in__Point), (vI .i64 s.from_), (vI .i64 s.till)])) 12 (vA #[(Value.string t.in__Begin), (Value.string t.in__End), (vB t.in__Point), (vI .i64 t.from_), (vI .i64 t.till)])) [] ∧ Holds w1__ (cl b97_ 44 [(Value.string ByteArray.empty), (Value.string ByteArray.empty), (vB false), (vI .i64 0), (vI .i64 0)] :: cl b7_ 44 [(Value.string t.in__Begin), (Value.string t.in__End), (vB t.in__Point), (vI .i64 t.from_), (vI .i64 t.till)] :: cl b2_ 44 [(Value.string s.in__Begin), (Value.string s.in__End), (vB s.in__Point), (vI .i64 s.from_), (vI .i64 s.till)] :: ro R :: F) ∧ Same w w1__) ?_ ?_
 ·rintro _ w289_ ⟨b97_, h, rfl, H290_, S291_⟩
  refine A_ready (i := 1) (rs := [5]) (by kernel_rfl) ?_
  refine AllR.cons ?_ ?_
  ·skip
   have H293_ := ((Holds.bring H290_ 3 rfl) :)
   refine A_op (ls' := #[true, true, true, false, true, false, false, false]) rfl (by kernel_rfl) (T_call (al := [(vA #[(Value.string s.in__Begin), (Value.string s.in__End), (vB s.in__Point), (vI .i64 s.from_), (vI .i64 s.till)])]) (pre := []) rfl rfl cb76 (spPlain R s (by first | assumption | omega)) H293_ ?_)
   rintro v292_ p297_ w294_ ⟨rfl, rfl⟩ S296_ H295_
   have S298_ := Same.trans S291_ S296_
   refine ⟨⟨Holds.rd H295_ 2 rfl, Holds.rd H295_ 3 rfl, (Holds.ro_at H295_ 0 rfl)⟩, ?_⟩
   have H299_ : Holds w294_ (cl b97_ 44 [(Value.string ByteArray.empty), (Value.string ByteArray.empty), (vB false), (vI .i64 0), (vI .i64 0)] :: ro R :: cl b7_ 44 [(Value.string t.in__Begin), (Value.string t.in__End), (vB t.in__Point), (vI .i64 t.from_), (vI .i64 t.till)] :: cl b2_ 44 [(Value.string s.in__Begin), (Value.string s.in__End), (vB s.in__Point), (vI .i64 s.from_), (vI .i64 s.till)] :: F) := (Holds.pkF H295_ [1, 0, 0, 0] 0 :)
   exact hJ145 _ _ ⟨b97_, _, congrArg (fun e => mkA 47 e []) (ch (ch (ch (ch (ch rfl rfl) rfl) rfl) rfl) rfl), H299_, S298_⟩
  refine AllR.cons ?_ AllR.nil
  refine A_op (ls' := #[true, false, true, false, true, true, false, false]) rfl (by kernel_rfl) (T_alloc z44 H290_ ?_)
  intro b300_ w301_ S303_ H302_
  have S304_ := Same.trans S291_ S303_
  refine ⟨⟨Holds.rd H302_ 2 rfl, Holds.rd H302_ 3 rfl, (Holds.ro_at H302_ 4 rfl)⟩, ?_⟩
  exact hJ149 _ _ ⟨b97_, b300_, _, congrArg (fun e => mkA 47 e []) (ch (ch (ch (ch (ch (ch rfl rfl) rfl) rfl) rfl) rfl) rfl), H302_, S304_⟩
 intro hJ148
 refine A_cut #[true, false, true, false, false, true, false, false] 5 (fun a__ w1__ => ∃ b121_ : Nat, ∃ h : Env, a__ = mkA 47 (upd (upd (upd (upd (upd h 0 (vI .i64 ord)) 6 (vB false)) 8 (vQ b121_)) 10 (vA #[(Value.string s.in__Begin), (Value.string s.in__End), (vB s.in__Point), (vI .i64 s.from_), (vI .i64 s.till)])) 12 (vA #[(Value.string t.in__Begin), (Value.string t.in__End), (vB t.in__Point), (vI .i64 t.from_), (vI .i64 t.till)])) [] ∧ Holds w1__ (cl b121_ 44 [(Value.string ByteArray.empty), (Value.string ByteArray.empty), (vB false), (vI .i64 0), (vI .i64 0)] :: cl b7_ 44 [(Value.string t.in__Begin), (Value.string t.in__End), (vB t.in__Point), (vI .i64 t.from_), (vI .i64 t.till)] :: cl b2_ 44 [(Value.string s.in__Begin), (Value.string s.in__End), (vB s.in__Point), (vI .i64 s.from_), (vI .i64 s.till)] :: ro R :: F) ∧ Same w w1__) ?_ ?_
 ·rintro _ w305_ ⟨b121_, h, rfl, H306_, S307_⟩
  refine A_ready (i := 1) (rs := [4]) (by kernel_rfl) ?_
  refine AllR.cons ?_ ?_
  ·skip
   have H309_ := ((Holds.bring H306_ 3 rfl) :)
   refine A_op (ls' := #[true, true, true, false, false, true, false, false]) rfl (by kernel_rfl) (T_call (al := [(vA #[(Value.string s.in__Begin), (Value.string s.in__End), (vB s.in__Point), (vI .i64 s.from_), (vI .i64 s.till)])]) (pre := []) rfl rfl cb76 (spPlain R s (by first | assumption | omega)) H309_ ?_)
   rintro v308_ p313_ w310_ ⟨rfl, rfl⟩ S312_ H311_
   have S314_ := Same.trans S307_ S312_
   refine ⟨⟨Holds.rd H311_ 2 rfl, Holds.rd H311_ 3 rfl, (Holds.ro_at H311_ 0 rfl)⟩, ?_⟩
   have H315_ : Holds w310_ (cl b121_ 44 [(Value.string ByteArray.empty), (Value.string ByteArray.empty), (vB false), (vI .i64 0), (vI .i64 0)] :: ro R :: cl b7_ 44 [(Value.string t.in__Begin), (Value.string t.in__End), (vB t.in__Point), (vI .i64 t.from_), (vI .i64 t.till)] :: cl b2_ 44 [(Value.string s.in__Begin), (Value.string s.in__End), (vB s.in__Point), (vI .i64 s.from_), (vI .i64 s.till)] :: F) := (Holds.pkF H311_ [1, 0, 0, 0] 0 :)
   exact hJ147 _ _ ⟨b121_, _, congrArg (fun e => mkA 47 e []) (ch (ch (ch (ch (ch rfl rfl) rfl) rfl) rfl) rfl), H315_, S314_⟩
  refine AllR.cons ?_ AllR.nil
  refine A_op (ls' := #[true, false, true, false, true, true, false, false]) rfl (by kernel_rfl) (T_alloc z44 H306_ ?_)
  intro b316_ w317_ S319_ H318_
  have S320_ := Same.trans S307_ S319_
  refine ⟨⟨Holds.rd H318_ 2 rfl, Holds.rd H318_ 3 rfl, (Holds.ro_at H318_ 4 rfl)⟩, ?_⟩
  have H321_ : Holds w317_ (cl b121_ 44 [(Value.string ByteArray.empty), (Value.string ByteArray.empty), (vB false), (vI .i64 0), (vI .i64 0)] :: cl b316_ 44 [(Value.string ByteArray.empty), (Value.string ByteArray.empty), (vB false), (vI .i64 0), (vI .i64 0)] :: cl b7_ 44 [(Value.string t.in__Begin), (Value.string t.in__End), (vB t.in__Point), (vI .i64 t.from_), (vI .i64 t.till)] :: cl b2_ 44 [(Value.string s.in__Begin), (Value.string s.in__End), (vB s.in__Point), (vI .i64 s.from_), (vI .i64 s.till)] :: ro R :: F) := (Holds.pkF H318_ [1, 0, 0, 0, 0] 0 :)
  exact hJ149 _ _ ⟨b316_, b121_, _, congrArg (fun e => mkA 47 e []) (ch (ch (ch (ch (ch (ch rfl rfl) rfl) rfl) rfl) rfl) rfl), H321_, S320_⟩
 intro hJ150
 have hq322_ := And.intro (Holds.rd H13_ 0 rfl) (And.intro (Holds.rd H13_ 1 rfl) ((Holds.ro_at H13_ 2 rfl)))
 refine A_tk 0 (v := (vA #[(Value.string s.in__Begin), (Value.string s.in__End), (vB s.in__Point), (vI .i64 s.from_), (vI .i64 s.till)])) rfl (by kernel_rfl) (fun w hS => x_loadN (vs := [(Value.string s.in__Begin), (Value.string s.in__End), (vB s.in__Point), (vI .i64 s.from_), (vI .i64 s.till)]) rfl Try.underlying44 rfl z44 rfl (Rd.cells hS.2.1 0 rfl)) hq322_ ?_
 refine A_tk 2 (v := (vA #[(Value.string t.in__Begin), (Value.string t.in__End), (vB t.in__Point), (vI .i64 t.from_), (vI .i64 t.till)])) rfl (by kernel_rfl) (fun w hS => x_loadN (vs := [(Value.string t.in__Begin), (Value.string t.in__End), (vB t.in__Point), (vI .i64 t.from_), (vI .i64 t.till)]) rfl Try.underlying44 rfl z44 rfl (Rd.cells hS.1 0 rfl)) hq322_ ?_
 refine A_ready (i := 1) (rs := [4, 5]) (by kernel_rfl) ?_
 refine AllR.cons ?_ ?_
 ·skip
  have H324_ := ((Holds.bring H13_ 2 rfl) :)
  refine A_op (ls' := #[true, true, true, false, false, false, false, false]) rfl (by kernel_rfl) (T_call (al := [(vA #[(Value.string s.in__Begin), (Value.string s.in__End), (vB s.in__Point), (vI .i64 s.from_), (vI .i64 s.till)])]) (pre := []) rfl rfl cb76 (spPlain R s (by first | assumption | omega)) H324_ ?_)
  rintro v323_ p328_ w325_ ⟨rfl, rfl⟩ S327_ H326_
  have S329_ := Same.trans (Same.trans S11_ (Same.drew _)) S327_
  refine ⟨⟨Holds.rd H326_ 1 rfl, Holds.rd H326_ 2 rfl, (Holds.ro_at H326_ 0 rfl)⟩, ?_⟩
  exact hJ139 _ _ ⟨_, congrArg (fun e => mkA 47 e []) (ch (ch (ch (ch rfl rfl) rfl) rfl) rfl), H326_, S329_⟩
 refine AllR.cons ?_ ?_
 ·skip
  refine A_op (ls' := #[true, false, true, false, true, false, false, false]) rfl (by kernel_rfl) (T_alloc z44 H13_ ?_)
  intro b330_ w331_ S333_ H332_
  have S334_ := Same.trans (Same.trans S11_ (Same.drew _)) S333_
  refine ⟨⟨Holds.rd H332_ 1 rfl, Holds.rd H332_ 2 rfl, (Holds.ro_at H332_ 3 rfl)⟩, ?_⟩
  exact hJ148 _ _ ⟨b330_, _, congrArg (fun e => mkA 47 e []) (ch (ch (ch (ch (ch rfl rfl) rfl) rfl) rfl) rfl), H332_, S334_⟩
 refine AllR.cons ?_ AllR.nil
 refine A_op (ls' := #[true, false, true, false, false, true, false, false]) rfl (by kernel_rfl) (T_alloc z44 H13_ ?_)
 intro b335_ w336_ S338_ H337_
 have S339_ := Same.trans (Same.trans S11_ (Same.drew _)) S338_
 refine ⟨⟨Holds.rd H337_ 1 rfl, Holds.rd H337_ 2 rfl, (Holds.ro_at H337_ 3 rfl)⟩, ?_⟩
 exact hJ150 _ _ ⟨b335_, _, congrArg (fun e => mkA 47 e []) (ch (ch (ch (ch (ch rfl rfl) rfl) rfl) rfl) rfl), H337_, S339_⟩

set_option maxHeartbeats 1600000 in
theorem spSame (R : HP) (ord : Int) (s t : SN) (hs : s.in__Begin.size ≤ 2147483647) (ht : t.in__Begin.size ≤ 2147483647) :
    Tri Try.prog 20 #[(vI .i64 ord), (vA #[(Value.string s.in__Begin), (Value.string s.in__End), (vB s.in__Point), (vI .i64 s.from_), (vI .i64 s.till)]), (vA #[(Value.string t.in__Begin), (Value.string t.in__End), (vB t.in__Point), (vI .i64 t.from_), (vI .i64 t.till)])] R [] (fun v__ post__ => v__ = (vB (sSame ord s t)) ∧ post__ = []) := by
 refine Tri.into (n := 19) (al := [(vI .i64 ord), (vA #[(Value.string s.in__Begin), (Value.string s.in__End), (vB s.in__Point), (vI .i64 s.from_), (vI .i64 s.till)]), (vA #[(Value.string t.in__Begin), (Value.string t.in__End), (vB t.in__Point), (vI .i64 t.from_), (vI .i64 t.till)])]) Try.func20 rfl Try.ntmps20 rfl rfl fun w F H => ?_
 refine C_seq (fun K1_ hK1_ => C_reg ?_)
 refine S_list (T_box (v := (vA #[(Value.string s.in__Begin), (Value.string s.in__End), (vB s.in__Point), (vI .i64 s.from_), (vI .i64 s.till)])) rfl H ?_)
 intro b2_ w3_ S5_ H4_
 have S6_ := Same.trans (Same.refl w) S5_
 refine S_list (T_box (v := (vA #[(Value.string t.in__Begin), (Value.string t.in__End), (vB t.in__Point), (vI .i64 t.from_), (vI .i64 t.till)])) rfl H4_ ?_)
 intro b7_ w8_ S10_ H9_
 have S11_ := Same.trans S6_ S10_
 refine sv (v := (vB false)) (x_assign rfl) ?_
 refine wpList_nil (X_then (hK1_ _ _ ?_))
 clear hK1_
 refine C_seq (fun K12_ hK12_ => C_reg ?_)
 refine sv (v := (vI .i64 ord)) (x_move rfl) ?_
 refine sv (v := (vA #[(Value.string s.in__Begin), (Value.string s.in__End), (vB s.in__Point), (vI .i64 s.from_), (vI .i64 s.till)])) (x_loadN (vs := [(Value.string s.in__Begin), (Value.string s.in__End), (vB s.in__Point), (vI .i64 s.from_), (vI .i64 s.till)]) rfl Try.underlying44 rfl z44 rfl (Rd.cells (Holds.rd H9_ 1 rfl) 0 rfl)) ?_
 refine sv (v := (vA #[(Value.string t.in__Begin), (Value.string t.in__End), (vB t.in__Point), (vI .i64 t.from_), (vI .i64 t.till)])) (x_loadN (vs := [(Value.string t.in__Begin), (Value.string t.in__End), (vB t.in__Point), (vI .i64 t.from_), (vI .i64 t.till)]) rfl Try.underlying44 rfl z44 rfl (Rd.cells (Holds.rd H9_ 0 rfl) 0 rfl)) ?_
 have H14_ := ((Holds.bring H9_ 2 rfl) :)
 refine S_list (T_call (al := [(vI .i64 ord), (vA #[(Value.string s.in__Begin), (Value.string s.in__End), (vB s.in__Point), (vI .i64 s.from_), (vI .i64 s.till)]), (vA #[(Value.string t.in__Begin), (Value.string t.in__End), (vB t.in__Point), (vI .i64 t.from_), (vI .i64 t.till)])]) (pre := []) rfl rfl cb55 (spAhead R ord s t (by first | assumption | omega) (by first | assumption | omega)) H14_ ?_)
 rintro v13_ p18_ w15_ ⟨rfl, rfl⟩ S17_ H16_
 have S19_ := Same.trans S11_ S17_
 refine sv (v := (vB (!(sAhead ord s t)))) (x_not rfl) ?_
 refine sv (v := (vB (!(sAhead ord s t)))) (x_move rfl) ?_
 rcases Bool.eq_false_or_eq_true (!(sAhead ord s t)) with c20_t | c20_f
 ·skip
  refine S_yes (j := 5) (dj := 12) (b := true) rfl rfl (congrArg vB c20_t) (T_val (v := (vI .i64 ord)) (x_move rfl) ?_)
  refine S_yes (j := 5) (dj := 12) (b := true) rfl rfl (congrArg vB c20_t) (T_val (v := (vA #[(Value.string t.in__Begin), (Value.string t.in__End), (vB t.in__Point), (vI .i64 t.from_), (vI .i64 t.till)])) (x_loadN (vs := [(Value.string t.in__Begin), (Value.string t.in__End), (vB t.in__Point), (vI .i64 t.from_), (vI .i64 t.till)]) rfl Try.underlying44 rfl z44 rfl (Rd.cells (Holds.rd H16_ 1 rfl) 0 rfl)) ?_)
  refine S_yes (j := 5) (dj := 12) (b := true) rfl rfl (congrArg vB c20_t) (T_val (v := (vA #[(Value.string s.in__Begin), (Value.string s.in__End), (vB s.in__Point), (vI .i64 s.from_), (vI .i64 s.till)])) (x_loadN (vs := [(Value.string s.in__Begin), (Value.string s.in__End), (vB s.in__Point), (vI .i64 s.from_), (vI .i64 s.till)]) rfl Try.underlying44 rfl z44 rfl (Rd.cells (Holds.rd H16_ 2 rfl) 0 rfl)) ?_)
  refine S_yes (j := 5) (dj := 12) (b := true) rfl rfl (congrArg vB c20_t) (T_call (al := [(vI .i64 ord), (vA #[(Value.string t.in__Begin), (Value.string t.in__End), (vB t.in__Point), (vI .i64 t.from_), (vI .i64 t.till)]), (vA #[(Value.string s.in__Begin), (Value.string s.in__End), (vB s.in__Point), (vI .i64 s.from_), (vI .i64 s.till)])]) (pre := []) rfl rfl cb55 (spAhead R ord t s (by first | assumption | omega) (by first | assumption | omega)) H16_ ?_)
  rintro v21_ p25_ w22_ ⟨rfl, rfl⟩ S24_ H23_
  have S26_ := Same.trans S19_ S24_
  refine S_yes (j := 5) (dj := 12) (b := true) rfl rfl (congrArg vB c20_t) (T_val (v := (vB (!(sAhead ord t s)))) (x_not rfl) ?_)
  refine S_list (T_pickT (v := (vB (!(sAhead ord t s)))) (congrArg vB c20_t) rfl ?_)
  refine sv (v := (vB (!(sAhead ord t s)))) (x_assign rfl) ?_
  refine wpList_nil (X_then (hK12_ _ _ ?_))
  clear hK12_
  refine C_ret ?_
  refine R_any (v := (vB (!(sAhead ord t s)))) (run_results1 rfl rfl) ?_
  have H27_ : Holds w22_ (ro R :: F) := (Holds.pkF H23_ [0] 2 :)
  exact ⟨_, _, rfl, ⟨(congrArg vB ((by unfold sSame; simp [c20_t]) : (!(sAhead ord t s)) = (sSame ord s t))), rfl⟩, S26_, H27_⟩
 ·skip
  refine S_no (j := 5) (dj := 12) (b := false) rfl rfl (congrArg vB c20_f) (by decide) ?_
  refine S_no (j := 5) (dj := 12) (b := false) rfl rfl (congrArg vB c20_f) (by decide) ?_
  refine S_no (j := 5) (dj := 12) (b := false) rfl rfl (congrArg vB c20_f) (by decide) ?_
  refine S_no (j := 5) (dj := 12) (b := false) rfl rfl (congrArg vB c20_f) (by decide) ?_
  refine S_no (j := 5) (dj := 12) (b := false) rfl rfl (congrArg vB c20_f) (by decide) ?_
  refine S_list (T_pickF (v := (vB false)) (congrArg vB c20_f) rfl ?_)
  refine sv (v := (vB false)) (x_assign rfl) ?_
  refine wpList_nil (X_then (hK12_ _ _ ?_))
  clear hK12_
  refine C_ret ?_
  refine R_any (v := (vB false)) (run_results1 rfl rfl) ?_
  have H28_ : Holds w15_ (ro R :: F) := (Holds.pkF H16_ [0] 2 :)
  exact ⟨_, _, rfl, ⟨(congrArg vB ((by unfold sSame; simp [c20_f]) : false = (sSame ord s t))), rfl⟩, S19_, H28_⟩

set_option maxHeartbeats 1600000 in
theorem spProper (R : HP) (ord : Int) (s : SN) (hs : s.in__Begin.size ≤ 2147483647) :
    Tri Try.prog 84 #[(vI .i64 ord), (vA #[(Value.string s.in__Begin), (Value.string s.in__End), (vB s.in__Point), (vI .i64 s.from_), (vI .i64 s.till)])] R [] (fun v__ post__ => v__ = (vB (sProper ord s)) ∧ post__ = []) := by
 refine Tri.into (n := 21) (al := [(vI .i64 ord), (vA #[(Value.string s.in__Begin), (Value.string s.in__End), (vB s.in__Point), (vI .i64 s.from_), (vI .i64 s.till)])]) Try.func84 rfl Try.ntmps84 rfl rfl fun w F H => ?_
 refine C_seq (fun K1_ hK1_ => C_reg ?_)
 refine S_list (T_box (v := (vA #[(Value.string s.in__Begin), (Value.string s.in__End), (vB s.in__Point), (vI .i64 s.from_), (vI .i64 s.till)])) rfl H ?_)
 intro b2_ w3_ S5_ H4_
 have S6_ := Same.trans (Same.refl w) S5_
 refine sv (v := (vB false)) (x_assign rfl) ?_
 refine wpList_nil (X_then (hK1_ _ _ ?_))
 clear hK1_
 refine C_seq (fun K7_ hK7_ => C_reg ?_)
 refine sv (v := (vA #[(Value.string s.in__Begin), (Value.string s.in__End), (vB s.in__Point), (vI .i64 s.from_), (vI .i64 s.till)])) (x_loadN (vs := [(Value.string s.in__Begin), (Value.string s.in__End), (vB s.in__Point), (vI .i64 s.from_), (vI .i64 s.till)]) rfl Try.underlying44 rfl z44 rfl (Rd.cells (Holds.rd H4_ 0 rfl) 0 rfl)) ?_
 have H9_ := ((Holds.bring H4_ 1 rfl) :)
 refine S_list (T_call (al := [(vA #[(Value.string s.in__Begin), (Value.string s.in__End), (vB s.in__Point), (vI .i64 s.from_), (vI .i64 s.till)])]) (pre := []) rfl rfl cb76 (spPlain R s (by first | assumption | omega)) H9_ ?_)
 rintro v8_ p13_ w10_ ⟨rfl, rfl⟩ S12_ H11_
 have S14_ := Same.trans S6_ S12_
 refine S_list (T_alloc z44 H11_ ?_)
 intro b15_ w16_ S18_ H17_
 have S19_ := Same.trans S14_ S18_
 refine S_list0 (T_storeN (vs := [(Value.string ((SN.plain s).in__Begin)), (Value.string ((SN.plain s).in__End)), (vB ((SN.plain s).in__Point)), (vI .i64 ((SN.plain s).from_)), (vI .i64 ((SN.plain s).till))]) rfl rfl z44 rfl (by simp [Value.oneCell']) H17_ 0 rfl (Nat.le_of_ble_eq_true (by rfl)) ?_)
 intro w20_ S22_ H21_
 have S23_ := Same.trans S19_ S22_
 refine wpList_nil (X_then (hK7_ _ _ ?_))
 clear hK7_
 refine C_seq (fun K24_ hK24_ => C_reg ?_)
 refine sv (v := (vI .i64 ord)) (x_move rfl) ?_
 refine sv (v := (vQ b15_)) (by kernel_rfl) ?_
 refine sv (v := (vQ b15_)) (by kernel_rfl) ?_
 refine sv (v := (Value.string ((SN.plain s).in__Begin))) (x_load1 rfl Try.underlying9 rfl ((Holds.rd H21_ 0 rfl) 0 (Value.string ((SN.plain s).in__Begin)) rfl)) ?_
 refine sv (v := (vQ b15_)) (by kernel_rfl) ?_
 refine sv (v := (vP (some ⟨b15_, 1, none⟩))) (by kernel_rfl) ?_
 refine sv (v := (Value.string ((SN.plain s).in__End))) (x_load1 rfl Try.underlying9 rfl ((Holds.rd H21_ 0 rfl) 1 (Value.string ((SN.plain s).in__End)) rfl)) ?_
 refine sv (v := (vP (some ⟨b15_, 3, none⟩))) (by kernel_rfl) ?_
 refine sv (v := (vI .i64 ((SN.plain s).from_))) (x_load1 rfl Try.underlying2 rfl ((Holds.rd H21_ 0 rfl) 3 (vI .i64 ((SN.plain s).from_)) rfl)) ?_
 refine sv (v := (vP (some ⟨b15_, 4, none⟩))) (by kernel_rfl) ?_
 refine sv (v := (vI .i64 ((SN.plain s).till))) (x_load1 rfl Try.underlying2 rfl ((Holds.rd H21_ 0 rfl) 4 (vI .i64 ((SN.plain s).till)) rfl)) ?_
 have H26_ := ((Holds.bring H21_ 1 rfl) :)
 refine S_list (T_call (al := [(vI .i64 ord), (Value.string ((SN.plain s).in__Begin)), (Value.string ((SN.plain s).in__End)), (vI .i64 ((SN.plain s).from_)), (vI .i64 ((SN.plain s).till))]) (pre := []) rfl rfl cb77 (spEnds R ord ((SN.plain s).in__Begin) ((SN.plain s).in__End) ((SN.plain s).from_) ((SN.plain s).till)) H26_ ?_)
 rintro v25_ p30_ w27_ ⟨rfl, rfl⟩ S29_ H28_
 have S31_ := Same.trans S23_ S29_
 refine sv (v := (vB (decide (ecm ord (ek ord ((SN.plain s).in__Begin) ((SN.plain s).from_)) (ek ord ((SN.plain s).in__End) ((SN.plain s).till)) < 0)))) (x_bin rfl rfl rfl) ?_
 refine sv (v := (vB (decide (ecm ord (ek ord ((SN.plain s).in__Begin) ((SN.plain s).from_)) (ek ord ((SN.plain s).in__End) ((SN.plain s).till)) < 0)))) (x_assign rfl) ?_
 refine wpList_nil (X_then (hK24_ _ _ ?_))
 clear hK24_
 refine C_ret ?_
 refine R_any (v := (vB (decide (ecm ord (ek ord ((SN.plain s).in__Begin) ((SN.plain s).from_)) (ek ord ((SN.plain s).in__End) ((SN.plain s).till)) < 0)))) (run_results1 rfl rfl) ?_
 have H32_ : Holds w27_ (ro R :: F) := (Holds.pkF H28_ [0] 2 :)
 exact ⟨_, _, rfl, ⟨(congrArg vB ((by unfold sProper SN.lo SN.hi; simp []) : (decide (ecm ord (ek ord ((SN.plain s).in__Begin) ((SN.plain s).from_)) (ek ord ((SN.plain s).in__End) ((SN.plain s).till)) < 0)) = (sProper ord s))), rfl⟩, S31_, H32_⟩
end Go.Proofs.Ytlnihndjepjagaa
set_option linter.unusedVariables false
set_option linter.unusedSimpArgs false
namespace Go.Proofs.Ytlnihndjepjagaa
open Go Go.RowKit Gw
open Go.Value renaming int → vI, bool → vB, slice → vS, pointer → vP, agg → vA, tuple → vT

set_option maxHeartbeats 1600000 in
theorem bPoint (R : HP) (x : Value) (A : List Int) (hx : RS R 1 x (List.length A) (bytesV A)) (hs : A.length ≤ 4000000000) :
    Tri Try.prog 102 #[x] R [] (fun v__ post__ => ∃ (b : Nat), v__ = (vA #[(Value.iface 168 x), (Value.iface 168 (vS (some ⟨b, 0, none⟩) (A.length + 1) (A.length + 1)))]) ∧ post__ = [cl b 5 (bytesV (A ++ [0]))]) := by
 have hrep_ : (List.replicate (A.length + 1) (vI IntKind.u8 0)).length = A.length + 1 := by simp
 refine Tri.into (n := 18) (al := [x]) Try.func102 rfl Try.ntmps102 rfl rfl fun w F H => ?_
 refine C_seq (fun K1_ hK1_ => C_reg ?_)
 refine S_list (T_alloc z111 H ?_)
 intro b2_ w3_ S5_ H4_
 have S6_ := Same.trans (Same.refl w) S5_
 refine wpList_nil (X_then (hK1_ _ _ ?_))
 clear hK1_
 refine C_seq (fun K7_ hK7_ => C_reg ?_)
 refine sv (v := x) (x_move rfl) ?_
 refine sv (v := (vI .i64 ((List.length A) : Int))) (x_lenRS rfl hx Try.underlying122) ?_
 refine sv (v := (vI .i64 (((List.length A) : Int) + 1))) (x_bin rfl rfl (ib_add (IntWalk.i64_in _ (by omega)))) ?_
 refine S_list (T_makeSlice1 (len := (List.length A) + 1) (cap := (List.length A) + 1) rfl rfl Try.underlying122 z5 rfl (by omega) (by omega) (by omega) (by omega) (by omega) H4_ ?_)
 intro b8_ w9_ S11_ H10_
 have S12_ := Same.trans S6_ S11_
 refine sv (v := (vS (some ⟨b8_, 0, none⟩) ((List.length A) + 1) ((List.length A) + 1))) (x_assign rfl) ?_
 refine wpList_nil (X_then (hK7_ _ _ ?_))
 clear hK7_
 refine C_seq (fun K13_ hK13_ => C_reg ?_)
 refine sv (v := (vS (some ⟨b8_, 0, none⟩) ((List.length A) + 1) ((List.length A) + 1))) (x_move rfl) ?_
 refine sv (v := x) (x_move rfl) ?_
 refine S_list (T_copy rfl rfl Try.underlying122 z5 H10_ 0 rfl hx (Holds.ro_at H10_ 2 rfl) (by omega) (by omega) (one_bytes _) ?_)
 intro w14_ S16_ H15_
 have S17_ := Same.trans S12_ S16_
 refine wpList_nil (X_then (hK13_ _ _ ?_))
 clear hK13_
 refine C_seq (fun K18_ hK18_ => C_reg ?_)
 refine sv (v := (vS (some ⟨b8_, 0, none⟩) ((List.length A) + 1) ((List.length A) + 1))) (x_move rfl) ?_
 refine sv (v := x) (x_move rfl) ?_
 refine sv (v := (vI .i64 ((List.length A) : Int))) (x_lenRS rfl hx Try.underlying122) ?_
 refine sv (v := (vP (some ⟨b8_, (List.length A), none⟩))) (x_indexAddr rfl rfl Try.underlying122 z5 (by omega) (by omega) (by omega : _ = (List.length A)) (by first | rfl | simp | (congr 1; omega))) ?_
 refine S_list0 (T_store1 (v := (vI .u8 0)) rfl rfl z5 rfl H15_ 0 rfl (by simp [bytesV_len]) ?_)
 intro w19_ S21_ H20_
 have S22_ := Same.trans S17_ S21_
 have H23_ := Holds.recl H20_ 0 rfl (by simp [bytesV, List.set_append] : (List.take 0 (List.replicate ((List.length A) + 1) (vI .u8 0)) ++ (bytesV A) ++ List.drop (0 + List.length (bytesV A)) (List.replicate ((List.length A) + 1) (vI .u8 0))).set (List.length A) (vI .u8 0) = bytesV (A ++ [0]))
 refine wpList_nil (X_then (hK18_ _ _ ?_))
 clear hK18_
 refine C_seq (fun K24_ hK24_ => C_reg ?_)
 refine sv (v := x) (x_move rfl) ?_
 refine sv (v := (vS (some ⟨b8_, 0, none⟩) ((List.length A) + 1) ((List.length A) + 1))) (x_move rfl) ?_
 refine S_list (T_callW (al := [x, (vS (some ⟨b8_, 0, none⟩) ((List.length A) + 1) ((List.length A) + 1))]) rfl rfl cb101 (Calls.into (n := 10) (al := [x, (vS (some ⟨b8_, 0, none⟩) ((List.length A) + 1) ((List.length A) + 1))]) Try.func101 rfl Try.ntmps101 rfl rfl ?_))
 refine C_seq (fun K25_ hK25_ => C_reg ?_)
 refine S_list (T_alloc z111 H23_ ?_)
 intro b26_ w27_ S29_ H28_
 have S30_ := Same.trans S22_ S29_
 refine wpList_nil (X_then (hK25_ _ _ ?_))
 clear hK25_
 refine C_seq (fun K31_ hK31_ => C_reg ?_)
 refine sv (v := x) (x_move rfl) ?_
 refine sv (v := (Value.iface 168 x)) (by kernel_rfl) ?_
 refine sv (v := (vS (some ⟨b8_, 0, none⟩) ((List.length A) + 1) ((List.length A) + 1))) (x_move rfl) ?_
 refine sv (v := (Value.iface 168 (vS (some ⟨b8_, 0, none⟩) ((List.length A) + 1) ((List.length A) + 1)))) (by kernel_rfl) ?_
 refine sv (v := (vA #[(Value.iface 168 x), (Value.iface 168 (vS (some ⟨b8_, 0, none⟩) ((List.length A) + 1) ((List.length A) + 1)))])) (by kernel_rfl) ?_
 refine S_list0 (T_storeN (vs := [(Value.iface 168 x), (Value.iface 168 (vS (some ⟨b8_, 0, none⟩) ((List.length A) + 1) ((List.length A) + 1)))]) rfl rfl z111 rfl (by simp [Value.oneCell']) H28_ 0 rfl (Nat.le_of_ble_eq_true (by rfl)) ?_)
 intro w32_ S34_ H33_
 have S35_ := Same.trans S30_ S34_
 refine wpList_nil (X_then (hK31_ _ _ ?_))
 clear hK31_
 refine C_ret ?_
 refine R_any (v := (vA #[(Value.iface 168 x), (Value.iface 168 (vS (some ⟨b8_, 0, none⟩) ((List.length A) + 1) ((List.length A) + 1)))])) (run_results1 rfl ⟨_, rfl, load_resN Try.underlying111 rfl z111 rfl (vs := [(Value.iface 168 x), (Value.iface 168 (vS (some ⟨b8_, 0, none⟩) ((List.length A) + 1) ((List.length A) + 1)))]) (Holds.cl_cells H33_ 0 rfl 0 rfl)⟩) ⟨_, rfl, ?_⟩
 refine S_list0 (T_storeN (vs := [(Value.iface 168 x), (Value.iface 168 (vS (some ⟨b8_, 0, none⟩) ((List.length A) + 1) ((List.length A) + 1)))]) rfl rfl z111 rfl (by simp [Value.oneCell']) H33_ 2 rfl (Nat.le_of_ble_eq_true (by rfl)) ?_)
 intro w36_ S38_ H37_
 have S39_ := Same.trans S35_ S38_
 refine wpList_nil (X_then (hK24_ _ _ ?_))
 clear hK24_
 refine C_ret ?_
 refine R_any (v := (vA #[(Value.iface 168 x), (Value.iface 168 (vS (some ⟨b8_, 0, none⟩) ((List.length A) + 1) ((List.length A) + 1)))])) (run_results1 rfl ⟨_, rfl, load_resN Try.underlying111 rfl z111 rfl (vs := [(Value.iface 168 x), (Value.iface 168 (vS (some ⟨b8_, 0, none⟩) ((List.length A) + 1) ((List.length A) + 1)))]) (Holds.cl_cells H37_ 2 rfl 0 rfl)⟩) ?_
 have H40_ : Holds w36_ (ro R :: cl b8_ 5 (bytesV (A ++ [0])) :: F) := (Holds.pkF H37_ [3, 1] 2 :)
 exact ⟨_, _, rfl, ⟨b8_, (congrArg (fun l => vA (List.toArray l)) (lcons rfl (lcons ((by first | rfl | omega | (simp; done) | (simp; omega)) : (Value.iface 168 (vS (some ⟨b8_, 0, none⟩) ((List.length A) + 1) ((List.length A) + 1))) = (Value.iface 168 (vS (some ⟨b8_, 0, none⟩) (A.length + 1) (A.length + 1)))) rfl))), rfl⟩, S39_, H40_⟩
end Go.Proofs.Ytlnihndjepjagaa
