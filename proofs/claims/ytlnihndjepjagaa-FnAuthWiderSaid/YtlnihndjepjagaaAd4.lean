/- Words, and proved steps, on which the proof leans. -/
import Derived.Test.YtlnihndjepjagaaAd3
set_option linter.unusedVariables false
set_option linter.unusedSimpArgs false
namespace Go.Proofs.Ytlnihndjepjagaa
open Go Go.RowKit Gw
open Go.Value renaming int → vI, bool → vB, slice → vS, pointer → vP, agg → vA, tuple → vT

section
variable {K : Type} (O : KO K)
/-- Interval [b, e) goes ahead of n's. -/
def bef (b e : K) (n : ND K) : Prop := O.cm b n.kb < 0 ∨ (O.cm b n.kb = 0 ∧ O.cm e n.ke < 0)
/-- The way down to a place: to the left of what the new one goes ahead of. -/
def way (b e : K) : List (Fr K) → Prop | [] => True | f :: C => (if f.d then bef O b e f.n else ¬ bef O b e f.n) ∧ way b e C
def srt (L : List (ND K)) : Prop := L.Pairwise fun x y => ¬ bef O y.kb y.ke x
variable {O}
/-- What goes ahead of one goes ahead of all that come behind it. -/
theorem bef_mono {b e : K} {x y : ND K} (h : bef O b e x) (hxy : ¬ bef O y.kb y.ke x) : bef O b e y := by
  have t1 : ∀ {a b c : K}, O.cm a b < 0 → ¬ O.cm c b < 0 → O.cm a c < 0 := by
    intro a b c h1 h2
    have h3 : ¬ 0 < O.cm b c := fun h => h2 (O.flip.2 h)
    have h4 : O.cm a c ≤ 0 := O.trans (b := b) (by omega) (by omega)
    have h5 : O.cm a c ≠ 0 := by
      intro h0
      have := O.anti h0
      subst this
      exact h2 h1
    omega
  unfold bef at *
  rcases h with h | ⟨h1, h2⟩
  · exact .inl (t1 h (fun hh => hxy (.inl hh)))
  · have e1 := O.anti h1
    subst e1
    by_cases hc : O.cm y.kb x.kb = 0
    · have e2 := O.anti hc
      refine .inr ⟨by rw [e2]; exact O.refl _, t1 h2 (fun hh => hxy (.inr ⟨hc, hh⟩))⟩
    · refine .inl ?_
      have h3 : ¬ O.cm y.kb x.kb < 0 := fun hh => hxy (.inl hh)
      exact O.flip.2 (by omega)
/-- A new one, put where the way leads, stands behind all that it does not go ahead of. -/
theorem way_in {b e : K} : ∀ {C : List (Fr K)} {M : List (ND K)}, way O b e C → srt O (inl C ++ M ++ inr C) → (∀ n ∈ inl C, ¬ bef O b e n) ∧ (∀ n ∈ inr C, bef O b e n)
  | [], M, _, _ => ⟨(fun n hn => by simp [inl] at hn), (fun n hn => by simp [inr] at hn)⟩
  | f :: C, M, hw, hs => by
    obtain ⟨d, m, o⟩ := f
    obtain ⟨h1, h2⟩ := hw
    cases d
    · have hs' : srt O (inl C ++ (ino o ++ [m.er] ++ M) ++ inr C) := by
        have : inl (⟨false, m, o⟩ :: C) ++ M ++ inr (⟨false, m, o⟩ :: C) = inl C ++ (ino o ++ [m.er] ++ M) ++ inr C := by simp [inl, inr]
        rw [← this]; exact hs
      obtain ⟨h3, h4⟩ := way_in h2 hs'
      refine ⟨fun n hn => ?_, fun n hn => h4 n (by simpa [inr] using hn)⟩
      have hn' : n ∈ inl C ∨ n ∈ ino o ∨ n = m.er := by simpa [inl] using hn
      have h1' : ¬ bef O b e m := by simpa using h1
      rcases hn' with hn | hn | rfl
      · exact h3 n hn
      · intro hb
        have hp : ¬ bef O m.er.kb m.er.ke n := by
          have := hs'
          unfold srt at this
          rw [List.pairwise_append] at this
          have := this.1
          rw [List.pairwise_append] at this
          have := this.2.1
          rw [List.append_assoc, List.pairwise_append] at this
          exact this.2.2 n hn m.er (by simp)
        exact h1' (bef_mono (y := m.er) hb hp)
      · exact h1'
    · have hs' : srt O (inl C ++ (M ++ m.er :: ino o) ++ inr C) := by
        have : inl (⟨true, m, o⟩ :: C) ++ M ++ inr (⟨true, m, o⟩ :: C) = inl C ++ (M ++ m.er :: ino o) ++ inr C := by simp [inl, inr]
        rw [← this]; exact hs
      obtain ⟨h3, h4⟩ := way_in h2 hs'
      refine ⟨fun n hn => h3 n (by simpa [inl] using hn), fun n hn => ?_⟩
      have hn' : n = m.er ∨ n ∈ ino o ∨ n ∈ inr C := by simpa [inr] using hn
      have h1' : bef O b e m := by simpa using h1
      rcases hn' with rfl | hn | hn
      · exact h1'
      · have hp : ¬ bef O n.kb n.ke m.er := by
          have := hs'
          unfold srt at this
          rw [List.pairwise_append] at this
          have := this.1
          rw [List.pairwise_append] at this
          have := this.2.1
          rw [List.pairwise_append] at this
          have := this.2.1
          rw [List.pairwise_cons] at this
          exact this.1 n hn
        exact bef_mono (x := m.er) h1' hp
      · exact h4 n hn
end
section
variable {K : Type} {O : KO K} {R : HP}
theorem ins_fx {C : List (Fr K)} {a : Nat} {b e v : Value} {kb ke : K} (hW : TOk O R (plug C (.lf : Tr K)) ∧ LocT O (plug C (.lf : Tr K)) ∧ blackT (plug C (.lf : Tr K))) (hC : COk O R C) (hb : O.Val R b kb) (he : O.Val R e ke) (hv : v.oneCell' = true := by rfl) :
    FxI O R (inl C ++ (⟨a, b, e, v, e, 1, kb, ke, ke⟩ : ND K).er :: inr C) (upC O (some (e, ke)) C) (.nd ⟨a, b, e, v, e, 1, kb, ke, ke⟩ .lf .lf) where
  tk := ⟨⟨hb, he, he, hv⟩, trivial, trivial⟩
  ck := COk.up hC (fun q hq => by cases hq; exact he)
  lt := ⟨O.refl _, trivial, trivial⟩
  lc := LocC.up (LocC.s (loc_unplug hW.2.1).2)
  top := (top_upC O C _).2.2 (top_plug hW.2.2)
  ino := by
    rw [(in_upC O C _).1, (in_upC O C _).2]
    simp [ino]
theorem bef_swap {y z : ND K} (h1 : bef O z.kb z.ke y) (h2 : bef O y.kb y.ke z.er) : bef O z.kb z.ke z.er := by
  exfalso
  unfold bef at h1 h2
  have f1 := @O.flip z.kb y.kb
  have f2 := @O.flip z.ke y.ke
  have f3 := @O.flip y.kb z.kb
  have f4 := @O.flip y.ke z.ke
  have e1 : O.cm z.kb y.kb = 0 ↔ O.cm y.kb z.kb = 0 := ⟨fun h => by have := O.anti h; rw [this]; exact O.refl _, fun h => by have := O.anti h; rw [this]; exact O.refl _⟩
  have h2' : O.cm y.kb z.kb < 0 ∨ O.cm y.kb z.kb = 0 ∧ O.cm y.ke z.ke < 0 := h2
  omega
theorem ins_srt {C : List (Fr K)} {z : ND K} (hw : way O z.kb z.ke C) (hs : srt O (inl C ++ inr C)) : srt O (inl C ++ z.er :: inr C) := by
  have h := way_in (M := []) hw (by simpa using hs)
  unfold srt at *
  rw [List.pairwise_append] at hs ⊢
  refine ⟨hs.1, ?_, fun x hx y hy => ?_⟩
  · rw [List.pairwise_cons]
    refine ⟨fun y hy hb => ?_, hs.2.1⟩
    have h2 := h.2 y hy
    have h3 : ¬ bef O z.kb z.ke z.er := by
      unfold bef
      intro hh
      rcases hh with hh | ⟨_, hh⟩
      · have := O.refl z.kb; exact absurd hh (by show ¬ O.cm z.kb z.kb < 0; omega)
      · have := O.refl z.ke; exact absurd hh (by show ¬ O.cm z.ke z.ke < 0; omega)
    exact h3 (bef_swap h2 hb)
  · rcases List.mem_cons.1 hy with rfl | hy
    · exact h.1 x hx
    · exact hs.2.2 x hx y hy
end

end Go.Proofs.Ytlnihndjepjagaa
set_option linter.unusedVariables false
set_option linter.unusedSimpArgs false
namespace Go.Proofs.Ytlnihndjepjagaa
open Go Go.RowKit Gw
open Go.Value renaming int → vI, bool → vB, slice → vS, pointer → vP, agg → vA, tuple → vT

set_option maxHeartbeats 16000000 in
theorem itInsert (R : HP) (K : Type) (O : KO K) (tb sb : Nat) (cnt : Int) (sc : List Value) (W : Tr K) (it jt vt : TypeId) (ix jx vx : Value) (kb ke : K) (hW : TOk O R W ∧ LocT O W ∧ blackT W) (hb : O.Val R (Value.iface it ix) kb) (he : O.Val R (Value.iface jt jx) ke) (hcn : 0 ≤ cnt ∧ cnt ≤ 1000000000000) (hs : srt O (ino W)) :
    Tri Try.prog 147 #[(vQ tb), (vA #[((Value.iface it ix)), ((Value.iface jt jx))]), ((Value.iface vt vx))] R [cl tb 188 [(vQ (rt sb W)), (vI .i64 cnt), (vQ sb)], tr sb sb W, clf sb 185 sc] (fun v__ post__ => ∃ (W' : Tr K) (L1 L2 : List (ND K)) (z : ND K), v__ = (vT #[]) ∧ post__ = [cl tb 188 [(vQ (rt sb W')), (vI .i64 (cnt + 1)), (vQ sb)], tr sb sb W', clf sb 185 sc] ∧ (TOk O R W' ∧ LocT O W' ∧ blackT W') ∧ (ino W' = L1 ++ z.er :: L2) ∧ (ino W = L1 ++ L2) ∧ (z.b = (Value.iface it ix) ∧ z.e = (Value.iface jt jx) ∧ z.v = (Value.iface vt vx) ∧ z.kb = kb ∧ z.ke = ke) ∧ (srt O (ino W'))) := by
 have hW1 := hW
 refine Tri.into (n := 165) (al := [(vQ tb), (vA #[((Value.iface it ix)), ((Value.iface jt jx))]), ((Value.iface vt vx))]) Try.func147 rfl Try.ntmps147 rfl rfl fun w F H => ?_
 refine C_seq (fun K1_ hK1_ => C_reg ?_)
 refine S_list (T_box (v := (vA #[((Value.iface it ix)), ((Value.iface jt jx))])) rfl H ?_)
 intro b2_ w3_ S5_ H4_
 have S6_ := Same.trans (Same.refl w) S5_
 refine wpList_nil (X_then (hK1_ _ _ ?_))
 clear hK1_
 refine C_seq (fun K7_ hK7_ => C_reg ?_)
 refine sv (v := (vQ tb)) (x_move rfl) ?_
 refine sv (v := (vQ tb)) (by kernel_rfl) ?_
 refine sv (v := (vP (some ⟨tb, 2, none⟩))) (by kernel_rfl) ?_
 refine sv (v := (vQ sb)) (x_load1 rfl Try.underlying182 rfl ((Holds.rd H4_ 2 rfl) 2 (vQ sb) rfl)) ?_
 refine sv (v := (vQ sb)) (x_assign rfl) ?_
 refine wpList_nil (X_then (hK7_ _ _ ?_))
 clear hK7_
 refine C_seq (fun K8_ hK8_ => C_reg ?_)
 refine sv (v := (vQ tb)) (x_move rfl) ?_
 refine sv (v := (vA #[((Value.iface it ix)), ((Value.iface jt jx))])) (x_loadN (vs := [((Value.iface it ix)), ((Value.iface jt jx))]) rfl Try.underlying111 rfl z111 rfl (Rd.cells (Holds.rd H4_ 0 rfl) 0 rfl)) ?_
 refine sv (v := ((Value.iface vt vx))) (x_move rfl) ?_
 refine S_list (T_callW (al := [(vQ tb), (vA #[((Value.iface it ix)), ((Value.iface jt jx))]), ((Value.iface vt vx))]) rfl rfl cb161 (Calls.into (n := 26) (al := [(vQ tb), (vA #[((Value.iface it ix)), ((Value.iface jt jx))]), ((Value.iface vt vx))]) Try.func161 rfl Try.ntmps161 rfl rfl ?_))
 refine C_seq (fun K9_ hK9_ => C_reg ?_)
 refine S_list (T_box (v := (vA #[((Value.iface it ix)), ((Value.iface jt jx))])) rfl H4_ ?_)
 intro b10_ w11_ S13_ H12_
 have S14_ := Same.trans S6_ S13_
 refine sv (v := (vP none)) (x_assign rfl) ?_
 refine wpList_nil (X_then (hK9_ _ _ ?_))
 clear hK9_
 refine C_seq (fun K15_ hK15_ => ?_)
 refine A_start (S := fun w => Rd b10_ [((Value.iface it ix)), ((Value.iface jt jx))] w ∧ Rd tb [(vQ (rt sb W)), (vI .i64 cnt), (vQ sb)] w ∧ RtRd w (rt sb W) (rmx W) ∧ Sub R (hp w)) (N := 20) foll rfl rfl ?_
 have H16_ := Holds.drew_ H12_
 have hq17_ := And.intro (Holds.rd H16_ 0 rfl) (And.intro (Holds.rd H16_ 3 rfl) (And.intro (Holds.tr_rd H16_ 4 rfl 5 rfl) ((Holds.ro_at H16_ 2 rfl))))
 refine A_tk 0 (v := (vA #[((Value.iface it ix)), ((Value.iface jt jx))])) rfl (by kernel_rfl) (fun w hS => x_loadN (vs := [((Value.iface it ix)), ((Value.iface jt jx))]) rfl Try.underlying111 rfl z111 rfl (Rd.cells hS.1 0 rfl)) hq17_ ?_
 refine A_tk 1 (v := ((Value.iface vt vx))) rfl (by kernel_rfl) (fun w hS => x_move rfl) hq17_ ?_
 refine A_tk 2 (v := (vA #[((Value.iface it ix)), ((Value.iface jt jx)), ((Value.iface vt vx))])) rfl (by kernel_rfl) (fun w hS => by kernel_rfl) hq17_ ?_
 refine A_tk 3 (v := (vP (some ⟨b10_, 1, none⟩))) rfl (by kernel_rfl) (fun w hS => by kernel_rfl) hq17_ ?_
 refine A_tk 4 (v := ((Value.iface jt jx))) rfl (by kernel_rfl) (fun w hS => x_load1 rfl Try.underlying109 rfl (hS.1 1 ((Value.iface jt jx)) rfl)) hq17_ ?_
 refine A_tk 5 (v := (vQ tb)) rfl (by kernel_rfl) (fun w hS => x_move rfl) hq17_ ?_
 refine A_tk 6 (v := (vQ tb)) rfl (by kernel_rfl) (fun w hS => by kernel_rfl) hq17_ ?_
 refine A_tk 7 (v := (vP (some ⟨tb, 2, none⟩))) rfl (by kernel_rfl) (fun w hS => by kernel_rfl) hq17_ ?_
 refine A_tk 8 (v := (vQ sb)) rfl (by kernel_rfl) (fun w hS => x_load1 rfl Try.underlying182 rfl (hS.2.1 2 (vQ sb) rfl)) hq17_ ?_
 refine A_tk 9 (v := (vQ tb)) rfl (by kernel_rfl) (fun w hS => x_move rfl) hq17_ ?_
 refine A_tk 10 (v := (vQ tb)) rfl (by kernel_rfl) (fun w hS => by kernel_rfl) hq17_ ?_
 refine A_tk 11 (v := (vP (some ⟨tb, 2, none⟩))) rfl (by kernel_rfl) (fun w hS => by kernel_rfl) hq17_ ?_
 refine A_tk 12 (v := (vQ sb)) rfl (by kernel_rfl) (fun w hS => x_load1 rfl Try.underlying182 rfl (hS.2.1 2 (vQ sb) rfl)) hq17_ ?_
 refine A_tk 13 (v := (vQ tb)) rfl (by kernel_rfl) (fun w hS => x_move rfl) hq17_ ?_
 refine A_tk 14 (v := (vQ tb)) rfl (by kernel_rfl) (fun w hS => by kernel_rfl) hq17_ ?_
 refine A_tk 15 (v := (vP (some ⟨tb, 2, none⟩))) rfl (by kernel_rfl) (fun w hS => by kernel_rfl) hq17_ ?_
 refine A_tk 16 (v := (vQ sb)) rfl (by kernel_rfl) (fun w hS => x_load1 rfl Try.underlying182 rfl (hS.2.1 2 (vQ sb) rfl)) hq17_ ?_
 refine A_tk 17 (v := (vA #[((Value.iface it ix)), ((Value.iface jt jx)), ((Value.iface vt vx)), ((Value.iface jt jx)), (vQ sb), (vQ sb), (vQ sb), (vI .i64 1)])) rfl (by kernel_rfl) (fun w hS => by kernel_rfl) hq17_ ?_
 refine A_ready (i := 18) (rs := []) (by kernel_rfl) ?_
 refine AllR.cons ?_ AllR.nil
 refine A_op (ls' := #[true, true, true, true, true, true, true, true, true, true, true, true, true, true, true, true, true, true, true, false]) rfl (by kernel_rfl) (T_boxf (v := (vA #[((Value.iface it ix)), ((Value.iface jt jx)), ((Value.iface vt vx)), ((Value.iface jt jx)), (vQ sb), (vQ sb), (vQ sb), (vI .i64 1)])) rfl H16_ ?_)
 intro b18_ w19_ S21_ H20_
 have S22_ := Same.trans (Same.trans S14_ (Same.drew _)) S21_
 refine ⟨⟨Holds.rd H20_ 1 rfl, Holds.rd H20_ 4 rfl, Holds.tr_rd H20_ 5 rfl 6 rfl, (Holds.ro_at H20_ 3 rfl)⟩, ?_⟩
 have hq23_ := And.intro (Holds.rd H20_ 1 rfl) (And.intro (Holds.rd H20_ 4 rfl) (And.intro (Holds.tr_rd H20_ 5 rfl 6 rfl) ((Holds.ro_at H20_ 3 rfl))))
 refine A_tk 19 (v := (vQ b18_)) rfl (by kernel_rfl) (fun w hS => x_assign rfl) hq23_ ?_
 refine A_done (by kernel_rfl) ?_
 refine (X_then (hK15_ _ _ ?_))
 clear hK15_
 refine C_ret ?_
 refine R_any (v := (vQ b18_)) (run_results1 rfl rfl) ⟨_, rfl, ?_⟩
 refine sv (v := (vQ b18_)) (x_assign rfl) ?_
 refine wpList_nil (X_then (hK8_ _ _ ?_))
 clear hK8_
 refine C_seq (fun K24_ hK24_ => C_reg ?_)
 refine sv (v := (vQ tb)) (x_move rfl) ?_
 refine sv (v := (vQ tb)) (by kernel_rfl) ?_
 refine sv (v := (vQ tb)) (by kernel_rfl) ?_
 refine sv (v := (vQ (rt sb W))) (x_load1 rfl Try.underlying182 rfl ((Holds.rd H20_ 4 rfl) 0 (vQ (rt sb W)) rfl)) ?_
 refine sv (v := (vQ (rt sb W))) (x_assign rfl) ?_
 refine wpList_nil (X_then (hK24_ _ _ ?_))
 clear hK24_
 refine C_seq (fun K25_ hK25_ => ?_)
 refine C_block ?_
 have H26_ : Holds w19_ (cx sb (rt sb W) ([] : List (Fr K)) :: clf b18_ 185 [((Value.iface it ix)), ((Value.iface jt jx)), ((Value.iface vt vx)), ((Value.iface jt jx)), (vQ sb), (vQ sb), (vQ sb), (vI .i64 1)] :: cl b10_ 111 [((Value.iface it ix)), ((Value.iface jt jx))] :: cl b2_ 111 [((Value.iface it ix)), ((Value.iface jt jx))] :: ro R :: cl tb 188 [(vQ (rt sb W)), (vI .i64 cnt), (vQ sb)] :: tr sb sb W :: clf sb 185 sc :: F) := Holds.cx_nil H20_
 have eH27_ : tr sb sb W = tr sb (pa sb ([] : List (Fr K))) W := by first | rfl | (congr 1 <;> first | rfl | omega | (simp; done) | (simp; omega))
 have H27_ : Holds w19_ (cx sb (rt sb W) ([] : List (Fr K)) :: clf b18_ 185 [((Value.iface it ix)), ((Value.iface jt jx)), ((Value.iface vt vx)), ((Value.iface jt jx)), (vQ sb), (vQ sb), (vQ sb), (vI .i64 1)] :: cl b10_ 111 [((Value.iface it ix)), ((Value.iface jt jx))] :: cl b2_ 111 [((Value.iface it ix)), ((Value.iface jt jx))] :: ro R :: cl tb 188 [(vQ (rt sb W)), (vI .i64 cnt), (vQ sb)] :: tr sb (pa sb ([] : List (Fr K))) W :: clf sb 185 sc :: F) := cast1 (P := fun c__ => Holds w19_ (cx sb (rt sb W) ([] : List (Fr K)) :: clf b18_ 185 [((Value.iface it ix)), ((Value.iface jt jx)), ((Value.iface vt vx)), ((Value.iface jt jx)), (vQ sb), (vQ sb), (vQ sb), (vI .i64 1)] :: cl b10_ 111 [((Value.iface it ix)), ((Value.iface jt jx))] :: cl b2_ 111 [((Value.iface it ix)), ((Value.iface jt jx))] :: ro R :: cl tb 188 [(vQ (rt sb W)), (vI .i64 cnt), (vQ sb)] :: c__ :: clf sb 185 sc :: F)) eH27_ H26_
 refine C_loop (γ := (List (Fr K)) × (Tr K)) (fun x__ a__ w1__ => match x__ with | ⟨C1, T⟩ => ∃ h : Env, a__ = mkA 165 (upd (upd (upd (upd h 0 (vQ tb)) 6 (vQ (pa sb C1))) 7 (vQ b18_)) 8 (vQ (rt sb T))) [] ∧ Holds w1__ (cx sb (rt sb T) C1 :: clf b18_ 185 [((Value.iface it ix)), ((Value.iface jt jx)), ((Value.iface vt vx)), ((Value.iface jt jx)), (vQ sb), (vQ sb), (vQ sb), (vI .i64 1)] :: cl b10_ 111 [((Value.iface it ix)), ((Value.iface jt jx))] :: cl b2_ 111 [((Value.iface it ix)), ((Value.iface jt jx))] :: ro R :: cl tb 188 [(vQ (rt sb W)), (vI .i64 cnt), (vQ sb)] :: tr sb (pa sb C1) T :: clf sb 185 sc :: F) ∧ Same w w1__ ∧ (plug C1 T = W) ∧ (way O kb ke C1) ∧ (TOk O R T) ∧ (COk O R C1)) (fun x__ => match x__ with | ⟨C1, T⟩ => (ino T).length) (⟨([] : List (Fr K)), W⟩) ⟨_, congrArg (fun e => mkA 165 e []) (ch (ch (ch (ch rfl rfl) ((by first | rfl | omega | (simp; done) | (simp; omega)) : (vQ sb) = (vQ ((pa sb ([] : List (Fr K))))))) rfl) rfl), H27_, S22_, (rfl), (trivial), (hW.1), (fun f hf => by cases hf)⟩ ?_
 rintro ⟨C1, T⟩ _ w28_ ⟨h, rfl, H29_, S30_, hpl, hway, hTk, hCk⟩
 refine C_seq (fun K31_ hK31_ => ?_)
 refine C_seq (fun K32_ hK32_ => C_reg ?_)
 rcases T with _ | ⟨f33_n, f33_a, f33_b⟩
 ·skip
  have H34_ : Holds w28_ (cx sb sb C1 :: clf b18_ 185 [((Value.iface it ix)), ((Value.iface jt jx)), ((Value.iface vt vx)), ((Value.iface jt jx)), (vQ sb), (vQ sb), (vQ sb), (vI .i64 1)] :: cl b10_ 111 [((Value.iface it ix)), ((Value.iface jt jx))] :: cl b2_ 111 [((Value.iface it ix)), ((Value.iface jt jx))] :: ro R :: cl tb 188 [(vQ (rt sb W)), (vI .i64 cnt), (vQ sb)] :: tr sb (pa sb C1) (Tr.lf : Tr K) :: clf sb 185 sc :: F) := (H29_)
  refine sv (v := (vQ sb)) (x_move rfl) ?_
  refine sv (v := (vQ tb)) (x_move rfl) ?_
  refine sv (v := (vQ tb)) (by kernel_rfl) ?_
  refine sv (v := (vP (some ⟨tb, 2, none⟩))) (by kernel_rfl) ?_
  refine sv (v := (vQ sb)) (x_load1 rfl Try.underlying182 rfl ((Holds.rd H34_ 5 rfl) 2 (vQ sb) rfl)) ?_
  refine sv (v := (vB false)) (x_neP rfl rfl Try.underlying182 z185) ?_
  refine wpList_nil (X_then (hK32_ _ _ ?_))
  clear hK32_
  refine C_condF rfl ?_
  refine C_exit (X_thenX (X_thenX (X_blkHit ?_)))
  refine (X_then (hK25_ _ _ ?_))
  clear hK25_
  refine C_seq (fun K35_ hK35_ => C_reg ?_)
  rcases C1 with _ | ⟨⟨_ | _, f36_p, f36_o⟩, f36_C⟩
  ·skip
   subst hpl
   have H37_ : Holds w28_ (cx sb sb ([] : List (Fr K)) :: clf b18_ 185 [((Value.iface it ix)), ((Value.iface jt jx)), ((Value.iface vt vx)), ((Value.iface jt jx)), (vQ sb), (vQ sb), (vQ sb), (vI .i64 1)] :: cl b10_ 111 [((Value.iface it ix)), ((Value.iface jt jx))] :: cl b2_ 111 [((Value.iface it ix)), ((Value.iface jt jx))] :: ro R :: cl tb 188 [(vQ sb), (vI .i64 cnt), (vQ sb)] :: tr sb sb (Tr.lf : Tr K) :: clf sb 185 sc :: F) := (H34_)
   refine sv (v := (vQ b18_)) (x_move rfl) ?_
   refine sv (v := (vQ sb)) (x_move rfl) ?_
   refine sv (v := (vQ b18_)) (by kernel_rfl) ?_
   refine sv (v := (vP (some ⟨b18_, 6, none⟩))) (by kernel_rfl) ?_
   refine S_list0 (T_store1f (v := (vQ sb)) rfl rfl z182 rfl H37_ 1 rfl (Nat.le_of_ble_eq_true (by rfl)) ?_)
   intro w38_ S40_ H39_
   have S41_ := Same.trans S30_ S40_
   refine wpList_nil (X_then (hK35_ _ _ ?_))
   clear hK35_
   refine C_seq (fun K42_ hK42_ => ?_)
   refine C_seq (fun K43_ hK43_ => C_reg ?_)
   refine sv (v := (vQ sb)) (x_move rfl) ?_
   refine sv (v := (vQ tb)) (x_move rfl) ?_
   refine sv (v := (vQ tb)) (by kernel_rfl) ?_
   refine sv (v := (vP (some ⟨tb, 2, none⟩))) (by kernel_rfl) ?_
   refine sv (v := (vQ sb)) (x_load1 rfl Try.underlying182 rfl ((Holds.rd H39_ 5 rfl) 2 (vQ sb) rfl)) ?_
   refine sv (v := (vB true)) (x_eqP rfl rfl Try.underlying182 z185) ?_
   refine wpList_nil (X_then (hK43_ _ _ ?_))
   clear hK43_
   refine C_condT rfl ?_
   refine C_reg ?_
   refine sv (v := (vQ tb)) (x_move rfl) ?_
   refine sv (v := (vQ b18_)) (x_move rfl) ?_
   refine sv (v := (vQ tb)) (by kernel_rfl) ?_
   refine sv (v := (vQ tb)) (by kernel_rfl) ?_
   refine S_list0 (T_store1 (v := (vQ b18_)) rfl rfl z182 rfl H39_ 5 rfl (Nat.le_of_ble_eq_true (by rfl)) ?_)
   intro w44_ S46_ H45_
   have S47_ := Same.trans S41_ S46_
   refine wpList_nil (X_then (hK42_ _ _ ?_))
   clear hK42_
   refine C_seq (fun K48_ hK48_ => C_reg ?_)
   refine sv (v := (vQ b18_)) (x_move rfl) ?_
   refine sv (v := (vQ b18_)) (by kernel_rfl) ?_
   refine sv (v := (vP (some ⟨b18_, 7, none⟩))) (by kernel_rfl) ?_
   refine S_list0 (T_store1f (v := (vI .i64 1)) rfl rfl z183 rfl H45_ 1 rfl (Nat.le_of_ble_eq_true (by rfl)) ?_)
   intro w49_ S51_ H50_
   have S52_ := Same.trans S47_ S51_
   refine wpList_nil (X_then (hK48_ _ _ ?_))
   clear hK48_
   refine C_seq (fun K53_ hK53_ => C_reg ?_)
   refine sv (v := (vQ tb)) (x_move rfl) ?_
   refine sv (v := (vQ b18_)) (x_move rfl) ?_
   have H54_ : Holds w49_ (cx sb sb ([] : List (Fr K)) :: clf b18_ 185 [((Value.iface it ix)), ((Value.iface jt jx)), ((Value.iface vt vx)), ((Value.iface jt jx)), (vQ sb), (vQ sb), (vQ sb), (vI .i64 1)] :: cl b10_ 111 [((Value.iface it ix)), ((Value.iface jt jx))] :: cl b2_ 111 [((Value.iface it ix)), ((Value.iface jt jx))] :: ro R :: cl tb 188 [(vQ b18_), (vI .i64 cnt), (vQ sb)] :: clf sb 185 sc :: F) := (Holds.pkF H50_ [0, 0, 0, 0, 0, 0, 1] 1 :)
   have H55_ : Holds w49_ (tr sb b18_ (Tr.lf : Tr K) :: cx sb sb ([] : List (Fr K)) :: clf b18_ 185 [((Value.iface it ix)), ((Value.iface jt jx)), ((Value.iface vt vx)), ((Value.iface jt jx)), (vQ sb), (vQ sb), (vQ sb), (vI .i64 1)] :: cl b10_ 111 [((Value.iface it ix)), ((Value.iface jt jx))] :: cl b2_ 111 [((Value.iface it ix)), ((Value.iface jt jx))] :: ro R :: cl tb 188 [(vQ b18_), (vI .i64 cnt), (vQ sb)] :: clf sb 185 sc :: F) := Holds.lf_tr H54_
   have H56_ : Holds w49_ (tr sb b18_ (Tr.lf : Tr K) :: tr sb b18_ (Tr.lf : Tr K) :: cx sb sb ([] : List (Fr K)) :: clf b18_ 185 [((Value.iface it ix)), ((Value.iface jt jx)), ((Value.iface vt vx)), ((Value.iface jt jx)), (vQ sb), (vQ sb), (vQ sb), (vI .i64 1)] :: cl b10_ 111 [((Value.iface it ix)), ((Value.iface jt jx))] :: cl b2_ 111 [((Value.iface it ix)), ((Value.iface jt jx))] :: ro R :: cl tb 188 [(vQ b18_), (vI .i64 cnt), (vQ sb)] :: clf sb 185 sc :: F) := Holds.lf_tr H55_
   have H57_ := ((Holds.bring (Holds.bring (Holds.bring H56_ 1 rfl) 1 rfl) 3 rfl) :)
   have H58_ := Holds.nd_tr (n := (⟨b18_, (Value.iface it ix), (Value.iface jt jx), (Value.iface vt vx), (Value.iface jt jx), 1, kb, ke, ke⟩ : ND K)) (a := (Tr.lf : Tr K)) (b := (Tr.lf : Tr K)) H57_
   have H59_ : Holds w49_ (tr sb (pa sb ([] : List (Fr K))) (Tr.nd (⟨b18_, (Value.iface it ix), (Value.iface jt jx), (Value.iface vt vx), (Value.iface jt jx), 1, kb, ke, ke⟩ : ND K) (Tr.lf : Tr K) (Tr.lf : Tr K)) :: cx sb b18_ ([] : List (Fr K)) :: cl b10_ 111 [((Value.iface it ix)), ((Value.iface jt jx))] :: cl b2_ 111 [((Value.iface it ix)), ((Value.iface jt jx))] :: ro R :: cl tb 188 [(vQ ((ra b18_ ([] : List (Fr K))))), (vI .i64 cnt), (vQ sb)] :: clf sb 185 sc :: F) := (H58_)
   have H60_ := H59_; rw [← pa_upC (O := O) sb ([] : List (Fr K)) (some ((Value.iface jt jx), ke)), ← ra_upC O ([] : List (Fr K)) b18_ (some ((Value.iface jt jx), ke))] at H60_
   have H61_ : Holds w49_ (tr sb (pa sb (upC O (some ((Value.iface jt jx), ke)) ([] : List (Fr K)))) (Tr.nd (⟨b18_, (Value.iface it ix), (Value.iface jt jx), (Value.iface vt vx), (Value.iface jt jx), 1, kb, ke, ke⟩ : ND K) (Tr.lf : Tr K) (Tr.lf : Tr K)) :: cx sb b18_ (upC O (some ((Value.iface jt jx), ke)) ([] : List (Fr K))) :: cl b10_ 111 [((Value.iface it ix)), ((Value.iface jt jx))] :: cl b2_ 111 [((Value.iface it ix)), ((Value.iface jt jx))] :: ro R :: cl tb 188 [(vQ ((ra b18_ (upC O (some ((Value.iface jt jx), ke)) ([] : List (Fr K)))))), (vI .i64 cnt), (vQ sb)] :: clf sb 185 sc :: F) := (H60_)
   have hFx_ : FxI O R (inl ([] : List (Fr K)) ++ (⟨b18_, (Value.iface it ix), (Value.iface jt jx), (Value.iface vt vx), (Value.iface jt jx), 1, kb, ke, ke⟩ : ND K).er :: inr ([] : List (Fr K))) (upC O (some ((Value.iface jt jx), ke)) ([] : List (Fr K))) (Tr.nd (⟨b18_, (Value.iface it ix), (Value.iface jt jx), (Value.iface vt vx), (Value.iface jt jx), 1, kb, ke, ke⟩ : ND K) (Tr.lf : Tr K) (Tr.lf : Tr K)) := ins_fx hW1 hCk hb he
   have H62_ := Holds.recl H61_ 5 rfl ((lcons ((by first | rfl | omega | (simp; done) | (simp; omega)) : (vQ ((ra b18_ (upC O (some ((Value.iface jt jx), ke)) ([] : List (Fr K)))))) = (vP (some ⟨(ra (⟨b18_, (Value.iface it ix), (Value.iface jt jx), (Value.iface vt vx), (Value.iface jt jx), 1, kb, ke, ke⟩ : ND K).a (upC O (some ((Value.iface jt jx), ke)) ([] : List (Fr K)))), 0, none⟩))) rfl) : [(vQ ((ra b18_ (upC O (some ((Value.iface jt jx), ke)) ([] : List (Fr K)))))), (vI .i64 cnt), (vQ sb)] = [(vP (some ⟨(ra (⟨b18_, (Value.iface it ix), (Value.iface jt jx), (Value.iface vt vx), (Value.iface jt jx), 1, kb, ke, ke⟩ : ND K).a (upC O (some ((Value.iface jt jx), ke)) ([] : List (Fr K)))), 0, none⟩)), (vI .i64 cnt), (vQ sb)])
   have eH63_ : cx sb b18_ (upC O (some ((Value.iface jt jx), ke)) ([] : List (Fr K))) = cx sb ((⟨b18_, (Value.iface it ix), (Value.iface jt jx), (Value.iface vt vx), (Value.iface jt jx), 1, kb, ke, ke⟩ : ND K).a) (upC O (some ((Value.iface jt jx), ke)) ([] : List (Fr K))) := by first | rfl | (congr 1 <;> first | rfl | omega | (simp; done) | (simp; omega))
   have H63_ : Holds w49_ (tr sb (pa sb (upC O (some ((Value.iface jt jx), ke)) ([] : List (Fr K)))) (Tr.nd (⟨b18_, (Value.iface it ix), (Value.iface jt jx), (Value.iface vt vx), (Value.iface jt jx), 1, kb, ke, ke⟩ : ND K) (Tr.lf : Tr K) (Tr.lf : Tr K)) :: cx sb ((⟨b18_, (Value.iface it ix), (Value.iface jt jx), (Value.iface vt vx), (Value.iface jt jx), 1, kb, ke, ke⟩ : ND K).a) (upC O (some ((Value.iface jt jx), ke)) ([] : List (Fr K))) :: cl b10_ 111 [((Value.iface it ix)), ((Value.iface jt jx))] :: cl b2_ 111 [((Value.iface it ix)), ((Value.iface jt jx))] :: ro R :: cl tb 188 [(vP (some ⟨(ra (⟨b18_, (Value.iface it ix), (Value.iface jt jx), (Value.iface vt vx), (Value.iface jt jx), 1, kb, ke, ke⟩ : ND K).a (upC O (some ((Value.iface jt jx), ke)) ([] : List (Fr K)))), 0, none⟩)), (vI .i64 cnt), (vQ sb)] :: clf sb 185 sc :: F) := cast1 (P := fun c__ => Holds w49_ (tr sb (pa sb (upC O (some ((Value.iface jt jx), ke)) ([] : List (Fr K)))) (Tr.nd (⟨b18_, (Value.iface it ix), (Value.iface jt jx), (Value.iface vt vx), (Value.iface jt jx), 1, kb, ke, ke⟩ : ND K) (Tr.lf : Tr K) (Tr.lf : Tr K)) :: c__ :: cl b10_ 111 [((Value.iface it ix)), ((Value.iface jt jx))] :: cl b2_ 111 [((Value.iface it ix)), ((Value.iface jt jx))] :: ro R :: cl tb 188 [(vP (some ⟨(ra (⟨b18_, (Value.iface it ix), (Value.iface jt jx), (Value.iface vt vx), (Value.iface jt jx), 1, kb, ke, ke⟩ : ND K).a (upC O (some ((Value.iface jt jx), ke)) ([] : List (Fr K)))), 0, none⟩)), (vI .i64 cnt), (vQ sb)] :: clf sb 185 sc :: F)) eH63_ H62_
   have H67_ := ((Holds.bring (Holds.bring (Holds.bring (Holds.bring (Holds.bring H63_ 6 rfl) 2 rfl) 2 rfl) 6 rfl) 6 rfl) :)
   refine S_list (T_call (al := [(vQ tb), (vP (some ⟨(⟨b18_, (Value.iface it ix), (Value.iface jt jx), (Value.iface vt vx), (Value.iface jt jx), 1, kb, ke, ke⟩ : ND K).a, 0, none⟩))]) (pre := [cl tb 188 [(vP (some ⟨(ra (⟨b18_, (Value.iface it ix), (Value.iface jt jx), (Value.iface vt vx), (Value.iface jt jx), 1, kb, ke, ke⟩ : ND K).a (upC O (some ((Value.iface jt jx), ke)) ([] : List (Fr K)))), 0, none⟩)), (vI .i64 cnt), (vQ sb)], tr sb (pa sb (upC O (some ((Value.iface jt jx), ke)) ([] : List (Fr K)))) (Tr.nd (⟨b18_, (Value.iface it ix), (Value.iface jt jx), (Value.iface vt vx), (Value.iface jt jx), 1, kb, ke, ke⟩ : ND K) (Tr.lf : Tr K) (Tr.lf : Tr K)), cx sb ((⟨b18_, (Value.iface it ix), (Value.iface jt jx), (Value.iface vt vx), (Value.iface jt jx), 1, kb, ke, ke⟩ : ND K).a) (upC O (some ((Value.iface jt jx), ke)) ([] : List (Fr K))), clf sb 185 sc]) rfl (lcons rfl (lcons ((by first | rfl | omega | (simp; done) | (simp; omega)) : (vQ b18_) = (vP (some ⟨(⟨b18_, (Value.iface it ix), (Value.iface jt jx), (Value.iface vt vx), (Value.iface jt jx), 1, kb, ke, ke⟩ : ND K).a, 0, none⟩))) rfl)) cb162 (itFix R K O tb sb cnt sc (⟨b18_, (Value.iface it ix), (Value.iface jt jx), (Value.iface vt vx), (Value.iface jt jx), 1, kb, ke, ke⟩ : ND K) (Tr.lf : Tr K) (Tr.lf : Tr K) (upC O (some ((Value.iface jt jx), ke)) ([] : List (Fr K))) (inl ([] : List (Fr K)) ++ (⟨b18_, (Value.iface it ix), (Value.iface jt jx), (Value.iface vt vx), (Value.iface jt jx), 1, kb, ke, ke⟩ : ND K).er :: inr ([] : List (Fr K))) (hFx_)) H67_ ?_)
   rintro v64_ p71_ w68_ ⟨W65_, rfl, rfl, he66_⟩ S70_ H69_
   have S72_ := Same.trans S52_ S70_
   refine wpList_nil (X_then (hK53_ _ _ ?_))
   clear hK53_
   refine C_reg ?_
   refine sv (v := (vQ tb)) (x_move rfl) ?_
   refine sv (v := (vQ tb)) (by kernel_rfl) ?_
   refine sv (v := (vP (some ⟨tb, 1, none⟩))) (by kernel_rfl) ?_
   refine sv (v := (vI .i64 cnt)) (x_load1 rfl Try.underlying3 rfl ((Holds.rd H69_ 1 rfl) 1 (vI .i64 cnt) rfl)) ?_
   refine sv (v := (vI .i64 (cnt + 1))) (x_bin rfl rfl (ib_add (IntWalk.i64_in _ (by omega)))) ?_
   refine sv (v := (vQ tb)) (by kernel_rfl) ?_
   refine sv (v := (vP (some ⟨tb, 1, none⟩))) (by kernel_rfl) ?_
   refine S_list0 (T_store1 (v := (vI .i64 (cnt + 1))) rfl rfl z3 rfl H69_ 1 rfl (Nat.le_of_ble_eq_true (by rfl)) ?_)
   intro w73_ S75_ H74_
   have S76_ := Same.trans S72_ S75_
   refine wpList_nil ?_
   refine R_0 rfl ?_
   have H77_ : Holds w73_ (ro R :: cl tb 188 [(vQ (rt sb W65_)), (vI .i64 (cnt + 1)), (vQ sb)] :: tr sb sb W65_ :: clf sb 185 sc :: F) := (Holds.pkF H74_ [0, 0, 0, 0] 2 :)
   exact ⟨_, _, rfl, ⟨W65_, (inl ([] : List (Fr K))), (inr ([] : List (Fr K))), (⟨b18_, (Value.iface it ix), (Value.iface jt jx), (Value.iface vt vx), (Value.iface jt jx), 1, kb, ke, ke⟩ : ND K), rfl, rfl, (⟨he66_.1, he66_.2.1, he66_.2.2.2⟩), (he66_.2.2.1), (by rw [ino_plug]; simp [ino]), (⟨rfl, rfl, rfl, rfl, rfl⟩), (by rw [he66_.2.2.1]; exact ins_srt hway (by have := hs; rw [ino_plug] at this; simpa [ino] using this))⟩, S76_, H77_⟩
  ·skip
   subst hpl
   have H78_ := H34_; rw [show rt sb (plug ((⟨false, f36_p, f36_o⟩ : Fr K) :: f36_C) (Tr.lf : Tr K)) = ra f36_p.a f36_C from rt_plug sb f36_C f36_p f36_o (Tr.lf : Tr K)] at H78_
   have H79_ : Holds w28_ (cx sb sb ((⟨false, f36_p, f36_o⟩ : Fr K) :: f36_C) :: clf b18_ 185 [((Value.iface it ix)), ((Value.iface jt jx)), ((Value.iface vt vx)), ((Value.iface jt jx)), (vQ sb), (vQ sb), (vQ sb), (vI .i64 1)] :: cl b10_ 111 [((Value.iface it ix)), ((Value.iface jt jx))] :: cl b2_ 111 [((Value.iface it ix)), ((Value.iface jt jx))] :: ro R :: cl tb 188 [(vQ (ra f36_p.a f36_C)), (vI .i64 cnt), (vQ sb)] :: tr sb f36_p.a (Tr.lf : Tr K) :: clf sb 185 sc :: F) := (H78_)
   have H80_ := Holds.cx_cons H79_
   obtain ⟨ht_, hcx_⟩ : LocT O (Tr.lf : Tr K) ∧ LocC O none ((⟨false, f36_p, f36_o⟩ : Fr K) :: f36_C) := loc_unplug (C := ((⟨false, f36_p, f36_o⟩ : Fr K) :: f36_C)) (t := (Tr.lf : Tr K)) hW1.2.1
   have hck_ : COk O R ((⟨false, f36_p, f36_o⟩ : Fr K) :: f36_C) := hCk
   have hkp_ := (hck_ _ (List.mem_cons_self ..)).1
   have hw_ := hway.1; unfold bef at hw_; simp only [if_true, if_false, Bool.false_eq_true] at hw_
   refine sv (v := (vQ b18_)) (x_move rfl) ?_
   refine sv (v := (vQ f36_p.a)) (x_move rfl) ?_
   refine sv (v := (vQ b18_)) (by kernel_rfl) ?_
   refine sv (v := (vP (some ⟨b18_, 6, none⟩))) (by kernel_rfl) ?_
   refine S_list0 (T_store1f (v := (vQ f36_p.a)) rfl rfl z182 rfl H80_ 3 rfl (Nat.le_of_ble_eq_true (by rfl)) ?_)
   intro w81_ S83_ H82_
   have S84_ := Same.trans S30_ S83_
   refine wpList_nil (X_then (hK35_ _ _ ?_))
   clear hK35_
   refine C_seq (fun K85_ hK85_ => ?_)
   refine C_seq (fun K86_ hK86_ => C_reg ?_)
   refine sv (v := (vQ f36_p.a)) (x_move rfl) ?_
   refine sv (v := (vQ tb)) (x_move rfl) ?_
   refine sv (v := (vQ tb)) (by kernel_rfl) ?_
   refine sv (v := (vP (some ⟨tb, 2, none⟩))) (by kernel_rfl) ?_
   refine sv (v := (vQ sb)) (x_load1 rfl Try.underlying182 rfl ((Holds.rd H82_ 7 rfl) 2 (vQ sb) rfl)) ?_
   have hpc87_ : f36_p.a ≠ sb := Holds.ne_f H82_ 0 rfl 9 rfl (by decide)
   refine sv (v := (vB false)) (x_cast (x_eqPN rfl rfl Try.underlying182 z185 (by decide) (Holds.blk H82_ 0 rfl) (Holds.blk H82_ 9 rfl)) (congrArg vB (decide_eq_false hpc87_))) ?_
   refine wpList_nil (X_then (hK86_ _ _ ?_))
   clear hK86_
   refine C_condF rfl ?_
   refine C_seq (fun K88_ hK88_ => ?_)
   refine A_start (S := fun w => (Rd f36_p.a [f36_p.b, f36_p.e, f36_p.v, f36_p.mx, (vQ (rt sb f36_o)), (vQ sb), (vQ (pa sb f36_C)), (vI .i64 f36_p.c)] w ∧ Blk w f36_p.a) ∧ RtRd w (rt sb f36_o) (rmx f36_o) ∧ (Rd b18_ [((Value.iface it ix)), ((Value.iface jt jx)), ((Value.iface vt vx)), ((Value.iface jt jx)), (vQ sb), (vQ sb), (vQ f36_p.a), (vI .i64 1)] w ∧ Blk w b18_) ∧ RtRd w (rt sb (Tr.lf : Tr K)) (rmx (Tr.lf : Tr K)) ∧ Sub R (hp w)) (N := 16) foll rfl rfl ?_
   have H89_ := Holds.drew_ H82_
   have hq90_ := And.intro ((And.intro (Holds.rdf H89_ 0 rfl) (Holds.blk H89_ 0 rfl))) (And.intro (Holds.tr_rd H89_ 1 rfl 9 rfl) (And.intro ((And.intro (Holds.rdf H89_ 3 rfl) (Holds.blk H89_ 3 rfl))) (And.intro (Holds.tr_rd H89_ 8 rfl 9 rfl) ((Holds.ro_at H89_ 6 rfl)))))
   refine A_tk 0 (v := (vQ b18_)) rfl (by kernel_rfl) (fun w hS => x_move rfl) hq90_ ?_
   refine A_tk 1 (v := (vQ b18_)) rfl (by kernel_rfl) (fun w hS => by kernel_rfl) hq90_ ?_
   refine A_tk 2 (v := (vQ b18_)) rfl (by kernel_rfl) (fun w hS => by kernel_rfl) hq90_ ?_
   refine A_tk 3 (v := (vQ b18_)) rfl (by kernel_rfl) (fun w hS => by kernel_rfl) hq90_ ?_
   refine A_tk 4 (v := (vQ b18_)) rfl (by kernel_rfl) (fun w hS => by kernel_rfl) hq90_ ?_
   refine A_tk 5 (v := ((Value.iface it ix))) rfl (by kernel_rfl) (fun w hS => x_load1 rfl Try.underlying109 rfl (hS.2.2.1.1 0 ((Value.iface it ix)) rfl)) hq90_ ?_
   refine A_tk 6 (v := (vQ f36_p.a)) rfl (by kernel_rfl) (fun w hS => x_move rfl) hq90_ ?_
   refine A_tk 7 (v := (vQ f36_p.a)) rfl (by kernel_rfl) (fun w hS => by kernel_rfl) hq90_ ?_
   refine A_tk 8 (v := (vQ f36_p.a)) rfl (by kernel_rfl) (fun w hS => by kernel_rfl) hq90_ ?_
   refine A_tk 9 (v := (vQ f36_p.a)) rfl (by kernel_rfl) (fun w hS => by kernel_rfl) hq90_ ?_
   refine A_tk 10 (v := (vQ f36_p.a)) rfl (by kernel_rfl) (fun w hS => by kernel_rfl) hq90_ ?_
   refine A_tk 11 (v := f36_p.b) rfl (by kernel_rfl) (fun w hS => x_load1 rfl Try.underlying109 rfl (hS.1.1 0 f36_p.b rfl)) hq90_ ?_
   refine A_tk 12 (v := ((Value.iface it ix))) rfl (by kernel_rfl) (fun w hS => by kernel_rfl) hq90_ ?_
   refine A_tk 13 (v := ((Value.iface it ix))) rfl (by kernel_rfl) (fun w hS => x_move rfl) hq90_ ?_
   refine A_ready (i := 14) (rs := []) (by kernel_rfl) ?_
   refine AllR.cons ?_ AllR.nil
   refine A_op (ls' := #[true, true, true, true, true, true, true, true, true, true, true, true, true, true, true, false]) rfl (by kernel_rfl) (T_cmp rfl rfl (O.cmp hb (hkp_.b)) H89_ 6 rfl ?_)
   intro w91_ S93_ H92_
   have S94_ := Same.trans (Same.trans S84_ (Same.drew _)) S93_
   refine ⟨⟨(And.intro (Holds.rdf H92_ 0 rfl) (Holds.blk H92_ 0 rfl)), Holds.tr_rd H92_ 1 rfl 9 rfl, (And.intro (Holds.rdf H92_ 3 rfl) (Holds.blk H92_ 3 rfl)), Holds.tr_rd H92_ 8 rfl 9 rfl, (Holds.ro_at H92_ 6 rfl)⟩, ?_⟩
   have hq95_ := And.intro ((And.intro (Holds.rdf H92_ 0 rfl) (Holds.blk H92_ 0 rfl))) (And.intro (Holds.tr_rd H92_ 1 rfl 9 rfl) (And.intro ((And.intro (Holds.rdf H92_ 3 rfl) (Holds.blk H92_ 3 rfl))) (And.intro (Holds.tr_rd H92_ 8 rfl 9 rfl) ((Holds.ro_at H92_ 6 rfl)))))
   refine A_tk 15 (v := (vI .i64 (O.cm kb f36_p.kb))) rfl (by kernel_rfl) (fun w hS => x_assign rfl) hq95_ ?_
   refine A_done (by kernel_rfl) ?_
   refine (X_then (hK88_ _ _ ?_))
   clear hK88_
   refine C_seq (fun K96_ hK96_ => ?_)
   refine C_seq (fun K97_ hK97_ => C_reg ?_)
   refine sv (v := (vI .i64 (O.cm kb f36_p.kb))) (x_move rfl) ?_
   refine sv (v := (vB (decide (O.cm kb f36_p.kb < 0)))) (x_bin rfl rfl rfl) ?_
   refine wpList_nil (X_then (hK97_ _ _ ?_))
   clear hK97_
   refine C_cond (b := decide (O.cm kb f36_p.kb < 0)) rfl (fun c98_t => ?_) (fun c98_f => ?_)
   ·have c98_tp : O.cm kb f36_p.kb < 0 := of_decide_eq_true c98_t
    omega
   ·have c98_fp : ¬ (O.cm kb f36_p.kb < 0) := of_decide_eq_false c98_f
    refine C_seq (fun K99_ hK99_ => C_reg ?_)
    refine sv (v := (vI .i64 (O.cm kb f36_p.kb))) (x_move rfl) ?_
    refine sv (v := (vB (decide (O.cm kb f36_p.kb = 0)))) (x_bin rfl rfl rfl) ?_
    refine wpList_nil (X_then (hK99_ _ _ ?_))
    clear hK99_
    refine C_cond (b := decide (O.cm kb f36_p.kb = 0)) rfl (fun c100_t => ?_) (fun c100_f => ?_)
    ·have c100_tp : O.cm kb f36_p.kb = 0 := of_decide_eq_true c100_t
     refine C_seq (fun K101_ hK101_ => ?_)
     refine A_start (S := fun w => (Rd f36_p.a [f36_p.b, f36_p.e, f36_p.v, f36_p.mx, (vQ (rt sb f36_o)), (vQ sb), (vQ (pa sb f36_C)), (vI .i64 f36_p.c)] w ∧ Blk w f36_p.a) ∧ RtRd w (rt sb f36_o) (rmx f36_o) ∧ (Rd b18_ [((Value.iface it ix)), ((Value.iface jt jx)), ((Value.iface vt vx)), ((Value.iface jt jx)), (vQ sb), (vQ sb), (vQ f36_p.a), (vI .i64 1)] w ∧ Blk w b18_) ∧ RtRd w (rt sb (Tr.lf : Tr K)) (rmx (Tr.lf : Tr K)) ∧ Sub R (hp w)) (N := 16) foll rfl rfl ?_
     have H102_ := Holds.drew_ H92_
     have hq103_ := And.intro ((And.intro (Holds.rdf H102_ 0 rfl) (Holds.blk H102_ 0 rfl))) (And.intro (Holds.tr_rd H102_ 1 rfl 9 rfl) (And.intro ((And.intro (Holds.rdf H102_ 3 rfl) (Holds.blk H102_ 3 rfl))) (And.intro (Holds.tr_rd H102_ 8 rfl 9 rfl) ((Holds.ro_at H102_ 6 rfl)))))
     refine A_tk 0 (v := (vQ b18_)) rfl (by kernel_rfl) (fun w hS => x_move rfl) hq103_ ?_
     refine A_tk 1 (v := (vQ b18_)) rfl (by kernel_rfl) (fun w hS => by kernel_rfl) hq103_ ?_
     refine A_tk 2 (v := (vQ b18_)) rfl (by kernel_rfl) (fun w hS => by kernel_rfl) hq103_ ?_
     refine A_tk 3 (v := (vQ b18_)) rfl (by kernel_rfl) (fun w hS => by kernel_rfl) hq103_ ?_
     refine A_tk 4 (v := (vP (some ⟨b18_, 1, none⟩))) rfl (by kernel_rfl) (fun w hS => by kernel_rfl) hq103_ ?_
     refine A_tk 5 (v := ((Value.iface jt jx))) rfl (by kernel_rfl) (fun w hS => x_load1 rfl Try.underlying109 rfl (hS.2.2.1.1 1 ((Value.iface jt jx)) rfl)) hq103_ ?_
     refine A_tk 6 (v := (vQ f36_p.a)) rfl (by kernel_rfl) (fun w hS => x_move rfl) hq103_ ?_
     refine A_tk 7 (v := (vQ f36_p.a)) rfl (by kernel_rfl) (fun w hS => by kernel_rfl) hq103_ ?_
     refine A_tk 8 (v := (vQ f36_p.a)) rfl (by kernel_rfl) (fun w hS => by kernel_rfl) hq103_ ?_
     refine A_tk 9 (v := (vQ f36_p.a)) rfl (by kernel_rfl) (fun w hS => by kernel_rfl) hq103_ ?_
     refine A_tk 10 (v := (vP (some ⟨f36_p.a, 1, none⟩))) rfl (by kernel_rfl) (fun w hS => by kernel_rfl) hq103_ ?_
     refine A_tk 11 (v := f36_p.e) rfl (by kernel_rfl) (fun w hS => x_load1 rfl Try.underlying109 rfl (hS.1.1 1 f36_p.e rfl)) hq103_ ?_
     refine A_tk 12 (v := ((Value.iface jt jx))) rfl (by kernel_rfl) (fun w hS => by kernel_rfl) hq103_ ?_
     refine A_tk 13 (v := ((Value.iface jt jx))) rfl (by kernel_rfl) (fun w hS => x_move rfl) hq103_ ?_
     refine A_ready (i := 14) (rs := []) (by kernel_rfl) ?_
     refine AllR.cons ?_ AllR.nil
     refine A_op (ls' := #[true, true, true, true, true, true, true, true, true, true, true, true, true, true, true, false]) rfl (by kernel_rfl) (T_cmp rfl rfl (O.cmp he (hkp_.e)) H102_ 6 rfl ?_)
     intro w104_ S106_ H105_
     have S107_ := Same.trans (Same.trans S94_ (Same.drew _)) S106_
     refine ⟨⟨(And.intro (Holds.rdf H105_ 0 rfl) (Holds.blk H105_ 0 rfl)), Holds.tr_rd H105_ 1 rfl 9 rfl, (And.intro (Holds.rdf H105_ 3 rfl) (Holds.blk H105_ 3 rfl)), Holds.tr_rd H105_ 8 rfl 9 rfl, (Holds.ro_at H105_ 6 rfl)⟩, ?_⟩
     have hq108_ := And.intro ((And.intro (Holds.rdf H105_ 0 rfl) (Holds.blk H105_ 0 rfl))) (And.intro (Holds.tr_rd H105_ 1 rfl 9 rfl) (And.intro ((And.intro (Holds.rdf H105_ 3 rfl) (Holds.blk H105_ 3 rfl))) (And.intro (Holds.tr_rd H105_ 8 rfl 9 rfl) ((Holds.ro_at H105_ 6 rfl)))))
     refine A_tk 15 (v := (vB (decide (O.cm ke f36_p.ke < 0)))) rfl (by kernel_rfl) (fun w hS => x_bin rfl rfl rfl) hq108_ ?_
     refine A_done (by kernel_rfl) ?_
     refine (X_then (hK101_ _ _ ?_))
     clear hK101_
     refine C_cond (b := decide (O.cm ke f36_p.ke < 0)) rfl (fun c109_t => ?_) (fun c109_f => ?_)
     ·have c109_tp : O.cm ke f36_p.ke < 0 := of_decide_eq_true c109_t
      omega
     ·have c109_fp : ¬ (O.cm ke f36_p.ke < 0) := of_decide_eq_false c109_f
      refine C_reg ?_
      refine sv (v := (vQ f36_p.a)) (x_move rfl) ?_
      refine sv (v := (vQ b18_)) (x_move rfl) ?_
      refine sv (v := (vQ f36_p.a)) (by kernel_rfl) ?_
      refine sv (v := (vP (some ⟨f36_p.a, 5, none⟩))) (by kernel_rfl) ?_
      refine S_list0 (T_store1f (v := (vQ b18_)) rfl rfl z182 rfl H105_ 0 rfl (Nat.le_of_ble_eq_true (by rfl)) ?_)
      intro w110_ S112_ H111_
      have S113_ := Same.trans S107_ S112_
      refine wpList_nil (X_then (hK96_ _ _ ?_))
      clear hK96_
      refine C_reg ?_
      refine sv (v := (vQ f36_p.a)) (x_move rfl) ?_
      refine sv (v := (vQ tb)) (x_move rfl) ?_
      refine sv (v := (vQ tb)) (by kernel_rfl) ?_
      refine sv (v := (vP (some ⟨tb, 2, none⟩))) (by kernel_rfl) ?_
      refine sv (v := (vQ sb)) (x_load1 rfl Try.underlying182 rfl ((Holds.rd H111_ 7 rfl) 2 (vQ sb) rfl)) ?_
      have H114_ := Holds.cons_cx (sb := sb) (f := (⟨false, f36_p, f36_o⟩ : Fr K)) (C := f36_C) (x := b18_) H111_
      have H115_ : Holds w110_ (cx sb (ha sb (some ((⟨b18_, (Value.iface it ix), (Value.iface jt jx), (Value.iface vt vx), (Value.iface jt jx), 1, kb, ke, ke⟩ : ND K), sb, sb, f36_p.a))) ((⟨false, f36_p, f36_o⟩ : Fr K) :: f36_C) :: hol (some ((⟨b18_, (Value.iface it ix), (Value.iface jt jx), (Value.iface vt vx), (Value.iface jt jx), 1, kb, ke, ke⟩ : ND K), sb, sb, f36_p.a)) :: cl b10_ 111 [((Value.iface it ix)), ((Value.iface jt jx))] :: cl b2_ 111 [((Value.iface it ix)), ((Value.iface jt jx))] :: ro R :: cl tb 188 [(vQ (ra f36_p.a f36_C)), (vI .i64 cnt), (vQ sb)] :: tr sb f36_p.a (Tr.lf : Tr K) :: clf sb 185 sc :: F) := (H114_)
      have H117_ := ((Holds.bring (Holds.bring (Holds.bring (Holds.bring H115_ 7 rfl) 1 rfl) 2 rfl) 5 rfl) :)
      refine S_list (T_call (al := [(vP (some ⟨(pa sb ((⟨false, f36_p, f36_o⟩ : Fr K) :: f36_C)), 0, none⟩)), (vQ sb)]) (pre := [hol (some ((⟨b18_, (Value.iface it ix), (Value.iface jt jx), (Value.iface vt vx), (Value.iface jt jx), 1, kb, ke, ke⟩ : ND K), sb, sb, f36_p.a)), cx sb (ha sb (some ((⟨b18_, (Value.iface it ix), (Value.iface jt jx), (Value.iface vt vx), (Value.iface jt jx), 1, kb, ke, ke⟩ : ND K), sb, sb, f36_p.a))) ((⟨false, f36_p, f36_o⟩ : Fr K) :: f36_C), clf sb 185 sc]) rfl (lcons ((by first | rfl | omega | (simp; done) | (simp; omega)) : (vQ f36_p.a) = (vP (some ⟨(pa sb ((⟨false, f36_p, f36_o⟩ : Fr K) :: f36_C)), 0, none⟩))) rfl) cb142 (itUpMax R K O sb sc (some ((⟨b18_, (Value.iface it ix), (Value.iface jt jx), (Value.iface vt vx), (Value.iface jt jx), 1, kb, ke, ke⟩ : ND K), sb, sb, f36_p.a)) ((⟨false, f36_p, f36_o⟩ : Fr K) :: f36_C) (hck_) (fun q hq => by cases hq; exact he)) H117_ ?_)
      rintro v116_ p121_ w118_ ⟨rfl, rfl⟩ S120_ H119_
      have S122_ := Same.trans S113_ S120_
      have H123_ : Holds w118_ (ro R :: clf b18_ 185 [((Value.iface it ix)), ((Value.iface jt jx)), ((Value.iface vt vx)), ((Value.iface jt jx)), (vQ sb), (vQ sb), (vQ f36_p.a), (vI .i64 1)] :: cx sb b18_ (upC O (some ((Value.iface jt jx), ke)) ((⟨false, f36_p, f36_o⟩ : Fr K) :: f36_C)) :: clf sb 185 sc :: cl b10_ 111 [((Value.iface it ix)), ((Value.iface jt jx))] :: cl b2_ 111 [((Value.iface it ix)), ((Value.iface jt jx))] :: cl tb 188 [(vQ (ra f36_p.a f36_C)), (vI .i64 cnt), (vQ sb)] :: tr sb f36_p.a (Tr.lf : Tr K) :: F) := (H119_)
      refine wpList_nil (X_then (hK85_ _ _ ?_))
      clear hK85_
      refine C_seq (fun K124_ hK124_ => C_reg ?_)
      refine sv (v := (vQ b18_)) (x_move rfl) ?_
      refine sv (v := (vQ b18_)) (by kernel_rfl) ?_
      refine sv (v := (vP (some ⟨b18_, 7, none⟩))) (by kernel_rfl) ?_
      refine S_list0 (T_store1f (v := (vI .i64 1)) rfl rfl z183 rfl H123_ 1 rfl (Nat.le_of_ble_eq_true (by rfl)) ?_)
      intro w125_ S127_ H126_
      have S128_ := Same.trans S122_ S127_
      refine wpList_nil (X_then (hK124_ _ _ ?_))
      clear hK124_
      refine C_seq (fun K129_ hK129_ => C_reg ?_)
      refine sv (v := (vQ tb)) (x_move rfl) ?_
      refine sv (v := (vQ b18_)) (x_move rfl) ?_
      have H130_ : Holds w125_ (ro R :: clf b18_ 185 [((Value.iface it ix)), ((Value.iface jt jx)), ((Value.iface vt vx)), ((Value.iface jt jx)), (vQ sb), (vQ sb), (vQ f36_p.a), (vI .i64 1)] :: cx sb b18_ (upC O (some ((Value.iface jt jx), ke)) ((⟨false, f36_p, f36_o⟩ : Fr K) :: f36_C)) :: clf sb 185 sc :: cl b10_ 111 [((Value.iface it ix)), ((Value.iface jt jx))] :: cl b2_ 111 [((Value.iface it ix)), ((Value.iface jt jx))] :: cl tb 188 [(vQ (ra f36_p.a f36_C)), (vI .i64 cnt), (vQ sb)] :: F) := (Holds.pkF H126_ [0, 0, 0, 0, 0, 0, 0] 1 :)
      have H131_ : Holds w125_ (tr sb b18_ (Tr.lf : Tr K) :: ro R :: clf b18_ 185 [((Value.iface it ix)), ((Value.iface jt jx)), ((Value.iface vt vx)), ((Value.iface jt jx)), (vQ sb), (vQ sb), (vQ f36_p.a), (vI .i64 1)] :: cx sb b18_ (upC O (some ((Value.iface jt jx), ke)) ((⟨false, f36_p, f36_o⟩ : Fr K) :: f36_C)) :: clf sb 185 sc :: cl b10_ 111 [((Value.iface it ix)), ((Value.iface jt jx))] :: cl b2_ 111 [((Value.iface it ix)), ((Value.iface jt jx))] :: cl tb 188 [(vQ (ra f36_p.a f36_C)), (vI .i64 cnt), (vQ sb)] :: F) := Holds.lf_tr H130_
      have H132_ : Holds w125_ (tr sb b18_ (Tr.lf : Tr K) :: tr sb b18_ (Tr.lf : Tr K) :: ro R :: clf b18_ 185 [((Value.iface it ix)), ((Value.iface jt jx)), ((Value.iface vt vx)), ((Value.iface jt jx)), (vQ sb), (vQ sb), (vQ f36_p.a), (vI .i64 1)] :: cx sb b18_ (upC O (some ((Value.iface jt jx), ke)) ((⟨false, f36_p, f36_o⟩ : Fr K) :: f36_C)) :: clf sb 185 sc :: cl b10_ 111 [((Value.iface it ix)), ((Value.iface jt jx))] :: cl b2_ 111 [((Value.iface it ix)), ((Value.iface jt jx))] :: cl tb 188 [(vQ (ra f36_p.a f36_C)), (vI .i64 cnt), (vQ sb)] :: F) := Holds.lf_tr H131_
      have H133_ := ((Holds.bring (Holds.bring (Holds.bring H132_ 1 rfl) 1 rfl) 3 rfl) :)
      have H134_ := Holds.nd_tr (n := (⟨b18_, (Value.iface it ix), (Value.iface jt jx), (Value.iface vt vx), (Value.iface jt jx), 1, kb, ke, ke⟩ : ND K)) (a := (Tr.lf : Tr K)) (b := (Tr.lf : Tr K)) H133_
      have H135_ : Holds w125_ (tr sb (pa sb ((⟨false, f36_p, f36_o⟩ : Fr K) :: f36_C)) (Tr.nd (⟨b18_, (Value.iface it ix), (Value.iface jt jx), (Value.iface vt vx), (Value.iface jt jx), 1, kb, ke, ke⟩ : ND K) (Tr.lf : Tr K) (Tr.lf : Tr K)) :: ro R :: cx sb b18_ (upC O (some ((Value.iface jt jx), ke)) ((⟨false, f36_p, f36_o⟩ : Fr K) :: f36_C)) :: clf sb 185 sc :: cl b10_ 111 [((Value.iface it ix)), ((Value.iface jt jx))] :: cl b2_ 111 [((Value.iface it ix)), ((Value.iface jt jx))] :: cl tb 188 [(vP (some ⟨(ra b18_ ((⟨false, f36_p, f36_o⟩ : Fr K) :: f36_C)), 0, none⟩)), (vI .i64 cnt), (vQ sb)] :: F) := (H134_)
      have H136_ := H135_; rw [← pa_upC (O := O) sb ((⟨false, f36_p, f36_o⟩ : Fr K) :: f36_C) (some ((Value.iface jt jx), ke)), ← ra_upC O ((⟨false, f36_p, f36_o⟩ : Fr K) :: f36_C) b18_ (some ((Value.iface jt jx), ke))] at H136_
      have H137_ : Holds w125_ (tr sb (pa sb (upC O (some ((Value.iface jt jx), ke)) ((⟨false, f36_p, f36_o⟩ : Fr K) :: f36_C))) (Tr.nd (⟨b18_, (Value.iface it ix), (Value.iface jt jx), (Value.iface vt vx), (Value.iface jt jx), 1, kb, ke, ke⟩ : ND K) (Tr.lf : Tr K) (Tr.lf : Tr K)) :: ro R :: cx sb b18_ (upC O (some ((Value.iface jt jx), ke)) ((⟨false, f36_p, f36_o⟩ : Fr K) :: f36_C)) :: clf sb 185 sc :: cl b10_ 111 [((Value.iface it ix)), ((Value.iface jt jx))] :: cl b2_ 111 [((Value.iface it ix)), ((Value.iface jt jx))] :: cl tb 188 [(vP (some ⟨(ra b18_ (upC O (some ((Value.iface jt jx), ke)) ((⟨false, f36_p, f36_o⟩ : Fr K) :: f36_C))), 0, none⟩)), (vI .i64 cnt), (vQ sb)] :: F) := (H136_)
      have hFx_ : FxI O R (inl ((⟨false, f36_p, f36_o⟩ : Fr K) :: f36_C) ++ (⟨b18_, (Value.iface it ix), (Value.iface jt jx), (Value.iface vt vx), (Value.iface jt jx), 1, kb, ke, ke⟩ : ND K).er :: inr ((⟨false, f36_p, f36_o⟩ : Fr K) :: f36_C)) (upC O (some ((Value.iface jt jx), ke)) ((⟨false, f36_p, f36_o⟩ : Fr K) :: f36_C)) (Tr.nd (⟨b18_, (Value.iface it ix), (Value.iface jt jx), (Value.iface vt vx), (Value.iface jt jx), 1, kb, ke, ke⟩ : ND K) (Tr.lf : Tr K) (Tr.lf : Tr K)) := ins_fx hW1 hCk hb he
      have H138_ := Holds.recl H137_ 6 rfl ((lcons ((by first | rfl | omega | (simp; done) | (simp; omega)) : (vP (some ⟨(ra b18_ (upC O (some ((Value.iface jt jx), ke)) ((⟨false, f36_p, f36_o⟩ : Fr K) :: f36_C))), 0, none⟩)) = (vP (some ⟨(ra (⟨b18_, (Value.iface it ix), (Value.iface jt jx), (Value.iface vt vx), (Value.iface jt jx), 1, kb, ke, ke⟩ : ND K).a (upC O (some ((Value.iface jt jx), ke)) ((⟨false, f36_p, f36_o⟩ : Fr K) :: f36_C))), 0, none⟩))) rfl) : [(vP (some ⟨(ra b18_ (upC O (some ((Value.iface jt jx), ke)) ((⟨false, f36_p, f36_o⟩ : Fr K) :: f36_C))), 0, none⟩)), (vI .i64 cnt), (vQ sb)] = [(vP (some ⟨(ra (⟨b18_, (Value.iface it ix), (Value.iface jt jx), (Value.iface vt vx), (Value.iface jt jx), 1, kb, ke, ke⟩ : ND K).a (upC O (some ((Value.iface jt jx), ke)) ((⟨false, f36_p, f36_o⟩ : Fr K) :: f36_C))), 0, none⟩)), (vI .i64 cnt), (vQ sb)])
      have eH139_ : cx sb b18_ (upC O (some ((Value.iface jt jx), ke)) ((⟨false, f36_p, f36_o⟩ : Fr K) :: f36_C)) = cx sb ((⟨b18_, (Value.iface it ix), (Value.iface jt jx), (Value.iface vt vx), (Value.iface jt jx), 1, kb, ke, ke⟩ : ND K).a) (upC O (some ((Value.iface jt jx), ke)) ((⟨false, f36_p, f36_o⟩ : Fr K) :: f36_C)) := by first | rfl | (congr 1 <;> first | rfl | omega | (simp; done) | (simp; omega))
      have H139_ : Holds w125_ (tr sb (pa sb (upC O (some ((Value.iface jt jx), ke)) ((⟨false, f36_p, f36_o⟩ : Fr K) :: f36_C))) (Tr.nd (⟨b18_, (Value.iface it ix), (Value.iface jt jx), (Value.iface vt vx), (Value.iface jt jx), 1, kb, ke, ke⟩ : ND K) (Tr.lf : Tr K) (Tr.lf : Tr K)) :: ro R :: cx sb ((⟨b18_, (Value.iface it ix), (Value.iface jt jx), (Value.iface vt vx), (Value.iface jt jx), 1, kb, ke, ke⟩ : ND K).a) (upC O (some ((Value.iface jt jx), ke)) ((⟨false, f36_p, f36_o⟩ : Fr K) :: f36_C)) :: clf sb 185 sc :: cl b10_ 111 [((Value.iface it ix)), ((Value.iface jt jx))] :: cl b2_ 111 [((Value.iface it ix)), ((Value.iface jt jx))] :: cl tb 188 [(vP (some ⟨(ra (⟨b18_, (Value.iface it ix), (Value.iface jt jx), (Value.iface vt vx), (Value.iface jt jx), 1, kb, ke, ke⟩ : ND K).a (upC O (some ((Value.iface jt jx), ke)) ((⟨false, f36_p, f36_o⟩ : Fr K) :: f36_C))), 0, none⟩)), (vI .i64 cnt), (vQ sb)] :: F) := cast1 (P := fun c__ => Holds w125_ (tr sb (pa sb (upC O (some ((Value.iface jt jx), ke)) ((⟨false, f36_p, f36_o⟩ : Fr K) :: f36_C))) (Tr.nd (⟨b18_, (Value.iface it ix), (Value.iface jt jx), (Value.iface vt vx), (Value.iface jt jx), 1, kb, ke, ke⟩ : ND K) (Tr.lf : Tr K) (Tr.lf : Tr K)) :: ro R :: c__ :: clf sb 185 sc :: cl b10_ 111 [((Value.iface it ix)), ((Value.iface jt jx))] :: cl b2_ 111 [((Value.iface it ix)), ((Value.iface jt jx))] :: cl tb 188 [(vP (some ⟨(ra (⟨b18_, (Value.iface it ix), (Value.iface jt jx), (Value.iface vt vx), (Value.iface jt jx), 1, kb, ke, ke⟩ : ND K).a (upC O (some ((Value.iface jt jx), ke)) ((⟨false, f36_p, f36_o⟩ : Fr K) :: f36_C))), 0, none⟩)), (vI .i64 cnt), (vQ sb)] :: F)) eH139_ H138_
      have H143_ := ((Holds.bring (Holds.bring (Holds.bring (Holds.bring (Holds.bring H139_ 3 rfl) 3 rfl) 2 rfl) 6 rfl) 4 rfl) :)
      refine S_list (T_call (al := [(vQ tb), (vP (some ⟨(⟨b18_, (Value.iface it ix), (Value.iface jt jx), (Value.iface vt vx), (Value.iface jt jx), 1, kb, ke, ke⟩ : ND K).a, 0, none⟩))]) (pre := [cl tb 188 [(vP (some ⟨(ra (⟨b18_, (Value.iface it ix), (Value.iface jt jx), (Value.iface vt vx), (Value.iface jt jx), 1, kb, ke, ke⟩ : ND K).a (upC O (some ((Value.iface jt jx), ke)) ((⟨false, f36_p, f36_o⟩ : Fr K) :: f36_C))), 0, none⟩)), (vI .i64 cnt), (vQ sb)], tr sb (pa sb (upC O (some ((Value.iface jt jx), ke)) ((⟨false, f36_p, f36_o⟩ : Fr K) :: f36_C))) (Tr.nd (⟨b18_, (Value.iface it ix), (Value.iface jt jx), (Value.iface vt vx), (Value.iface jt jx), 1, kb, ke, ke⟩ : ND K) (Tr.lf : Tr K) (Tr.lf : Tr K)), cx sb ((⟨b18_, (Value.iface it ix), (Value.iface jt jx), (Value.iface vt vx), (Value.iface jt jx), 1, kb, ke, ke⟩ : ND K).a) (upC O (some ((Value.iface jt jx), ke)) ((⟨false, f36_p, f36_o⟩ : Fr K) :: f36_C)), clf sb 185 sc]) rfl (lcons rfl (lcons ((by first | rfl | omega | (simp; done) | (simp; omega)) : (vQ b18_) = (vP (some ⟨(⟨b18_, (Value.iface it ix), (Value.iface jt jx), (Value.iface vt vx), (Value.iface jt jx), 1, kb, ke, ke⟩ : ND K).a, 0, none⟩))) rfl)) cb162 (itFix R K O tb sb cnt sc (⟨b18_, (Value.iface it ix), (Value.iface jt jx), (Value.iface vt vx), (Value.iface jt jx), 1, kb, ke, ke⟩ : ND K) (Tr.lf : Tr K) (Tr.lf : Tr K) (upC O (some ((Value.iface jt jx), ke)) ((⟨false, f36_p, f36_o⟩ : Fr K) :: f36_C)) (inl ((⟨false, f36_p, f36_o⟩ : Fr K) :: f36_C) ++ (⟨b18_, (Value.iface it ix), (Value.iface jt jx), (Value.iface vt vx), (Value.iface jt jx), 1, kb, ke, ke⟩ : ND K).er :: inr ((⟨false, f36_p, f36_o⟩ : Fr K) :: f36_C)) (hFx_)) H143_ ?_)
      rintro v140_ p147_ w144_ ⟨W141_, rfl, rfl, he142_⟩ S146_ H145_
      have S148_ := Same.trans S128_ S146_
      refine wpList_nil (X_then (hK129_ _ _ ?_))
      clear hK129_
      refine C_reg ?_
      refine sv (v := (vQ tb)) (x_move rfl) ?_
      refine sv (v := (vQ tb)) (by kernel_rfl) ?_
      refine sv (v := (vP (some ⟨tb, 1, none⟩))) (by kernel_rfl) ?_
      refine sv (v := (vI .i64 cnt)) (x_load1 rfl Try.underlying3 rfl ((Holds.rd H145_ 1 rfl) 1 (vI .i64 cnt) rfl)) ?_
      refine sv (v := (vI .i64 (cnt + 1))) (x_bin rfl rfl (ib_add (IntWalk.i64_in _ (by omega)))) ?_
      refine sv (v := (vQ tb)) (by kernel_rfl) ?_
      refine sv (v := (vP (some ⟨tb, 1, none⟩))) (by kernel_rfl) ?_
      refine S_list0 (T_store1 (v := (vI .i64 (cnt + 1))) rfl rfl z3 rfl H145_ 1 rfl (Nat.le_of_ble_eq_true (by rfl)) ?_)
      intro w149_ S151_ H150_
      have S152_ := Same.trans S148_ S151_
      refine wpList_nil ?_
      refine R_0 rfl ?_
      have H153_ : Holds w149_ (ro R :: cl tb 188 [(vQ (rt sb W141_)), (vI .i64 (cnt + 1)), (vQ sb)] :: tr sb sb W141_ :: clf sb 185 sc :: F) := (Holds.pkF H150_ [0, 0, 0, 0] 2 :)
      exact ⟨_, _, rfl, ⟨W141_, (inl ((⟨false, f36_p, f36_o⟩ : Fr K) :: f36_C)), (inr ((⟨false, f36_p, f36_o⟩ : Fr K) :: f36_C)), (⟨b18_, (Value.iface it ix), (Value.iface jt jx), (Value.iface vt vx), (Value.iface jt jx), 1, kb, ke, ke⟩ : ND K), rfl, rfl, (⟨he142_.1, he142_.2.1, he142_.2.2.2⟩), (he142_.2.2.1), (by rw [ino_plug]; simp [ino]), (⟨rfl, rfl, rfl, rfl, rfl⟩), (by rw [he142_.2.2.1]; exact ins_srt hway (by have := hs; rw [ino_plug] at this; simpa [ino] using this))⟩, S152_, H153_⟩
    ·have c100_fp : ¬ (O.cm kb f36_p.kb = 0) := of_decide_eq_false c100_f
     refine C_reg ?_
     refine sv (v := (vQ f36_p.a)) (x_move rfl) ?_
     refine sv (v := (vQ b18_)) (x_move rfl) ?_
     refine sv (v := (vQ f36_p.a)) (by kernel_rfl) ?_
     refine sv (v := (vP (some ⟨f36_p.a, 5, none⟩))) (by kernel_rfl) ?_
     refine S_list0 (T_store1f (v := (vQ b18_)) rfl rfl z182 rfl H92_ 0 rfl (Nat.le_of_ble_eq_true (by rfl)) ?_)
     intro w154_ S156_ H155_
     have S157_ := Same.trans S94_ S156_
     refine wpList_nil (X_then (hK96_ _ _ ?_))
     clear hK96_
     refine C_reg ?_
     refine sv (v := (vQ f36_p.a)) (x_move rfl) ?_
     refine sv (v := (vQ tb)) (x_move rfl) ?_
     refine sv (v := (vQ tb)) (by kernel_rfl) ?_
     refine sv (v := (vP (some ⟨tb, 2, none⟩))) (by kernel_rfl) ?_
     refine sv (v := (vQ sb)) (x_load1 rfl Try.underlying182 rfl ((Holds.rd H155_ 7 rfl) 2 (vQ sb) rfl)) ?_
     have H158_ := Holds.cons_cx (sb := sb) (f := (⟨false, f36_p, f36_o⟩ : Fr K)) (C := f36_C) (x := b18_) H155_
     have H159_ : Holds w154_ (cx sb (ha sb (some ((⟨b18_, (Value.iface it ix), (Value.iface jt jx), (Value.iface vt vx), (Value.iface jt jx), 1, kb, ke, ke⟩ : ND K), sb, sb, f36_p.a))) ((⟨false, f36_p, f36_o⟩ : Fr K) :: f36_C) :: hol (some ((⟨b18_, (Value.iface it ix), (Value.iface jt jx), (Value.iface vt vx), (Value.iface jt jx), 1, kb, ke, ke⟩ : ND K), sb, sb, f36_p.a)) :: cl b10_ 111 [((Value.iface it ix)), ((Value.iface jt jx))] :: cl b2_ 111 [((Value.iface it ix)), ((Value.iface jt jx))] :: ro R :: cl tb 188 [(vQ (ra f36_p.a f36_C)), (vI .i64 cnt), (vQ sb)] :: tr sb f36_p.a (Tr.lf : Tr K) :: clf sb 185 sc :: F) := (H158_)
     have H161_ := ((Holds.bring (Holds.bring (Holds.bring (Holds.bring H159_ 7 rfl) 1 rfl) 2 rfl) 5 rfl) :)
     refine S_list (T_call (al := [(vP (some ⟨(pa sb ((⟨false, f36_p, f36_o⟩ : Fr K) :: f36_C)), 0, none⟩)), (vQ sb)]) (pre := [hol (some ((⟨b18_, (Value.iface it ix), (Value.iface jt jx), (Value.iface vt vx), (Value.iface jt jx), 1, kb, ke, ke⟩ : ND K), sb, sb, f36_p.a)), cx sb (ha sb (some ((⟨b18_, (Value.iface it ix), (Value.iface jt jx), (Value.iface vt vx), (Value.iface jt jx), 1, kb, ke, ke⟩ : ND K), sb, sb, f36_p.a))) ((⟨false, f36_p, f36_o⟩ : Fr K) :: f36_C), clf sb 185 sc]) rfl (lcons ((by first | rfl | omega | (simp; done) | (simp; omega)) : (vQ f36_p.a) = (vP (some ⟨(pa sb ((⟨false, f36_p, f36_o⟩ : Fr K) :: f36_C)), 0, none⟩))) rfl) cb142 (itUpMax R K O sb sc (some ((⟨b18_, (Value.iface it ix), (Value.iface jt jx), (Value.iface vt vx), (Value.iface jt jx), 1, kb, ke, ke⟩ : ND K), sb, sb, f36_p.a)) ((⟨false, f36_p, f36_o⟩ : Fr K) :: f36_C) (hck_) (fun q hq => by cases hq; exact he)) H161_ ?_)
     rintro v160_ p165_ w162_ ⟨rfl, rfl⟩ S164_ H163_
     have S166_ := Same.trans S157_ S164_
     have H167_ : Holds w162_ (ro R :: clf b18_ 185 [((Value.iface it ix)), ((Value.iface jt jx)), ((Value.iface vt vx)), ((Value.iface jt jx)), (vQ sb), (vQ sb), (vQ f36_p.a), (vI .i64 1)] :: cx sb b18_ (upC O (some ((Value.iface jt jx), ke)) ((⟨false, f36_p, f36_o⟩ : Fr K) :: f36_C)) :: clf sb 185 sc :: cl b10_ 111 [((Value.iface it ix)), ((Value.iface jt jx))] :: cl b2_ 111 [((Value.iface it ix)), ((Value.iface jt jx))] :: cl tb 188 [(vQ (ra f36_p.a f36_C)), (vI .i64 cnt), (vQ sb)] :: tr sb f36_p.a (Tr.lf : Tr K) :: F) := (H163_)
     refine wpList_nil (X_then (hK85_ _ _ ?_))
     clear hK85_
     refine C_seq (fun K168_ hK168_ => C_reg ?_)
     refine sv (v := (vQ b18_)) (x_move rfl) ?_
     refine sv (v := (vQ b18_)) (by kernel_rfl) ?_
     refine sv (v := (vP (some ⟨b18_, 7, none⟩))) (by kernel_rfl) ?_
     refine S_list0 (T_store1f (v := (vI .i64 1)) rfl rfl z183 rfl H167_ 1 rfl (Nat.le_of_ble_eq_true (by rfl)) ?_)
     intro w169_ S171_ H170_
     have S172_ := Same.trans S166_ S171_
     refine wpList_nil (X_then (hK168_ _ _ ?_))
     clear hK168_
     refine C_seq (fun K173_ hK173_ => C_reg ?_)
     refine sv (v := (vQ tb)) (x_move rfl) ?_
     refine sv (v := (vQ b18_)) (x_move rfl) ?_
     have H174_ : Holds w169_ (ro R :: clf b18_ 185 [((Value.iface it ix)), ((Value.iface jt jx)), ((Value.iface vt vx)), ((Value.iface jt jx)), (vQ sb), (vQ sb), (vQ f36_p.a), (vI .i64 1)] :: cx sb b18_ (upC O (some ((Value.iface jt jx), ke)) ((⟨false, f36_p, f36_o⟩ : Fr K) :: f36_C)) :: clf sb 185 sc :: cl b10_ 111 [((Value.iface it ix)), ((Value.iface jt jx))] :: cl b2_ 111 [((Value.iface it ix)), ((Value.iface jt jx))] :: cl tb 188 [(vQ (ra f36_p.a f36_C)), (vI .i64 cnt), (vQ sb)] :: F) := (Holds.pkF H170_ [0, 0, 0, 0, 0, 0, 0] 1 :)
     have H175_ : Holds w169_ (tr sb b18_ (Tr.lf : Tr K) :: ro R :: clf b18_ 185 [((Value.iface it ix)), ((Value.iface jt jx)), ((Value.iface vt vx)), ((Value.iface jt jx)), (vQ sb), (vQ sb), (vQ f36_p.a), (vI .i64 1)] :: cx sb b18_ (upC O (some ((Value.iface jt jx), ke)) ((⟨false, f36_p, f36_o⟩ : Fr K) :: f36_C)) :: clf sb 185 sc :: cl b10_ 111 [((Value.iface it ix)), ((Value.iface jt jx))] :: cl b2_ 111 [((Value.iface it ix)), ((Value.iface jt jx))] :: cl tb 188 [(vQ (ra f36_p.a f36_C)), (vI .i64 cnt), (vQ sb)] :: F) := Holds.lf_tr H174_
     have H176_ : Holds w169_ (tr sb b18_ (Tr.lf : Tr K) :: tr sb b18_ (Tr.lf : Tr K) :: ro R :: clf b18_ 185 [((Value.iface it ix)), ((Value.iface jt jx)), ((Value.iface vt vx)), ((Value.iface jt jx)), (vQ sb), (vQ sb), (vQ f36_p.a), (vI .i64 1)] :: cx sb b18_ (upC O (some ((Value.iface jt jx), ke)) ((⟨false, f36_p, f36_o⟩ : Fr K) :: f36_C)) :: clf sb 185 sc :: cl b10_ 111 [((Value.iface it ix)), ((Value.iface jt jx))] :: cl b2_ 111 [((Value.iface it ix)), ((Value.iface jt jx))] :: cl tb 188 [(vQ (ra f36_p.a f36_C)), (vI .i64 cnt), (vQ sb)] :: F) := Holds.lf_tr H175_
     have H177_ := ((Holds.bring (Holds.bring (Holds.bring H176_ 1 rfl) 1 rfl) 3 rfl) :)
     have H178_ := Holds.nd_tr (n := (⟨b18_, (Value.iface it ix), (Value.iface jt jx), (Value.iface vt vx), (Value.iface jt jx), 1, kb, ke, ke⟩ : ND K)) (a := (Tr.lf : Tr K)) (b := (Tr.lf : Tr K)) H177_
     have H179_ : Holds w169_ (tr sb (pa sb ((⟨false, f36_p, f36_o⟩ : Fr K) :: f36_C)) (Tr.nd (⟨b18_, (Value.iface it ix), (Value.iface jt jx), (Value.iface vt vx), (Value.iface jt jx), 1, kb, ke, ke⟩ : ND K) (Tr.lf : Tr K) (Tr.lf : Tr K)) :: ro R :: cx sb b18_ (upC O (some ((Value.iface jt jx), ke)) ((⟨false, f36_p, f36_o⟩ : Fr K) :: f36_C)) :: clf sb 185 sc :: cl b10_ 111 [((Value.iface it ix)), ((Value.iface jt jx))] :: cl b2_ 111 [((Value.iface it ix)), ((Value.iface jt jx))] :: cl tb 188 [(vP (some ⟨(ra b18_ ((⟨false, f36_p, f36_o⟩ : Fr K) :: f36_C)), 0, none⟩)), (vI .i64 cnt), (vQ sb)] :: F) := (H178_)
     have H180_ := H179_; rw [← pa_upC (O := O) sb ((⟨false, f36_p, f36_o⟩ : Fr K) :: f36_C) (some ((Value.iface jt jx), ke)), ← ra_upC O ((⟨false, f36_p, f36_o⟩ : Fr K) :: f36_C) b18_ (some ((Value.iface jt jx), ke))] at H180_
     have H181_ : Holds w169_ (tr sb (pa sb (upC O (some ((Value.iface jt jx), ke)) ((⟨false, f36_p, f36_o⟩ : Fr K) :: f36_C))) (Tr.nd (⟨b18_, (Value.iface it ix), (Value.iface jt jx), (Value.iface vt vx), (Value.iface jt jx), 1, kb, ke, ke⟩ : ND K) (Tr.lf : Tr K) (Tr.lf : Tr K)) :: ro R :: cx sb b18_ (upC O (some ((Value.iface jt jx), ke)) ((⟨false, f36_p, f36_o⟩ : Fr K) :: f36_C)) :: clf sb 185 sc :: cl b10_ 111 [((Value.iface it ix)), ((Value.iface jt jx))] :: cl b2_ 111 [((Value.iface it ix)), ((Value.iface jt jx))] :: cl tb 188 [(vP (some ⟨(ra b18_ (upC O (some ((Value.iface jt jx), ke)) ((⟨false, f36_p, f36_o⟩ : Fr K) :: f36_C))), 0, none⟩)), (vI .i64 cnt), (vQ sb)] :: F) := (H180_)
     have hFx_ : FxI O R (inl ((⟨false, f36_p, f36_o⟩ : Fr K) :: f36_C) ++ (⟨b18_, (Value.iface it ix), (Value.iface jt jx), (Value.iface vt vx), (Value.iface jt jx), 1, kb, ke, ke⟩ : ND K).er :: inr ((⟨false, f36_p, f36_o⟩ : Fr K) :: f36_C)) (upC O (some ((Value.iface jt jx), ke)) ((⟨false, f36_p, f36_o⟩ : Fr K) :: f36_C)) (Tr.nd (⟨b18_, (Value.iface it ix), (Value.iface jt jx), (Value.iface vt vx), (Value.iface jt jx), 1, kb, ke, ke⟩ : ND K) (Tr.lf : Tr K) (Tr.lf : Tr K)) := ins_fx hW1 hCk hb he
     have H182_ := Holds.recl H181_ 6 rfl ((lcons ((by first | rfl | omega | (simp; done) | (simp; omega)) : (vP (some ⟨(ra b18_ (upC O (some ((Value.iface jt jx), ke)) ((⟨false, f36_p, f36_o⟩ : Fr K) :: f36_C))), 0, none⟩)) = (vP (some ⟨(ra (⟨b18_, (Value.iface it ix), (Value.iface jt jx), (Value.iface vt vx), (Value.iface jt jx), 1, kb, ke, ke⟩ : ND K).a (upC O (some ((Value.iface jt jx), ke)) ((⟨false, f36_p, f36_o⟩ : Fr K) :: f36_C))), 0, none⟩))) rfl) : [(vP (some ⟨(ra b18_ (upC O (some ((Value.iface jt jx), ke)) ((⟨false, f36_p, f36_o⟩ : Fr K) :: f36_C))), 0, none⟩)), (vI .i64 cnt), (vQ sb)] = [(vP (some ⟨(ra (⟨b18_, (Value.iface it ix), (Value.iface jt jx), (Value.iface vt vx), (Value.iface jt jx), 1, kb, ke, ke⟩ : ND K).a (upC O (some ((Value.iface jt jx), ke)) ((⟨false, f36_p, f36_o⟩ : Fr K) :: f36_C))), 0, none⟩)), (vI .i64 cnt), (vQ sb)])
     have eH183_ : cx sb b18_ (upC O (some ((Value.iface jt jx), ke)) ((⟨false, f36_p, f36_o⟩ : Fr K) :: f36_C)) = cx sb ((⟨b18_, (Value.iface it ix), (Value.iface jt jx), (Value.iface vt vx), (Value.iface jt jx), 1, kb, ke, ke⟩ : ND K).a) (upC O (some ((Value.iface jt jx), ke)) ((⟨false, f36_p, f36_o⟩ : Fr K) :: f36_C)) := by first | rfl | (congr 1 <;> first | rfl | omega | (simp; done) | (simp; omega))
     have H183_ : Holds w169_ (tr sb (pa sb (upC O (some ((Value.iface jt jx), ke)) ((⟨false, f36_p, f36_o⟩ : Fr K) :: f36_C))) (Tr.nd (⟨b18_, (Value.iface it ix), (Value.iface jt jx), (Value.iface vt vx), (Value.iface jt jx), 1, kb, ke, ke⟩ : ND K) (Tr.lf : Tr K) (Tr.lf : Tr K)) :: ro R :: cx sb ((⟨b18_, (Value.iface it ix), (Value.iface jt jx), (Value.iface vt vx), (Value.iface jt jx), 1, kb, ke, ke⟩ : ND K).a) (upC O (some ((Value.iface jt jx), ke)) ((⟨false, f36_p, f36_o⟩ : Fr K) :: f36_C)) :: clf sb 185 sc :: cl b10_ 111 [((Value.iface it ix)), ((Value.iface jt jx))] :: cl b2_ 111 [((Value.iface it ix)), ((Value.iface jt jx))] :: cl tb 188 [(vP (some ⟨(ra (⟨b18_, (Value.iface it ix), (Value.iface jt jx), (Value.iface vt vx), (Value.iface jt jx), 1, kb, ke, ke⟩ : ND K).a (upC O (some ((Value.iface jt jx), ke)) ((⟨false, f36_p, f36_o⟩ : Fr K) :: f36_C))), 0, none⟩)), (vI .i64 cnt), (vQ sb)] :: F) := cast1 (P := fun c__ => Holds w169_ (tr sb (pa sb (upC O (some ((Value.iface jt jx), ke)) ((⟨false, f36_p, f36_o⟩ : Fr K) :: f36_C))) (Tr.nd (⟨b18_, (Value.iface it ix), (Value.iface jt jx), (Value.iface vt vx), (Value.iface jt jx), 1, kb, ke, ke⟩ : ND K) (Tr.lf : Tr K) (Tr.lf : Tr K)) :: ro R :: c__ :: clf sb 185 sc :: cl b10_ 111 [((Value.iface it ix)), ((Value.iface jt jx))] :: cl b2_ 111 [((Value.iface it ix)), ((Value.iface jt jx))] :: cl tb 188 [(vP (some ⟨(ra (⟨b18_, (Value.iface it ix), (Value.iface jt jx), (Value.iface vt vx), (Value.iface jt jx), 1, kb, ke, ke⟩ : ND K).a (upC O (some ((Value.iface jt jx), ke)) ((⟨false, f36_p, f36_o⟩ : Fr K) :: f36_C))), 0, none⟩)), (vI .i64 cnt), (vQ sb)] :: F)) eH183_ H182_
     have H187_ := ((Holds.bring (Holds.bring (Holds.bring (Holds.bring (Holds.bring H183_ 3 rfl) 3 rfl) 2 rfl) 6 rfl) 4 rfl) :)
     refine S_list (T_call (al := [(vQ tb), (vP (some ⟨(⟨b18_, (Value.iface it ix), (Value.iface jt jx), (Value.iface vt vx), (Value.iface jt jx), 1, kb, ke, ke⟩ : ND K).a, 0, none⟩))]) (pre := [cl tb 188 [(vP (some ⟨(ra (⟨b18_, (Value.iface it ix), (Value.iface jt jx), (Value.iface vt vx), (Value.iface jt jx), 1, kb, ke, ke⟩ : ND K).a (upC O (some ((Value.iface jt jx), ke)) ((⟨false, f36_p, f36_o⟩ : Fr K) :: f36_C))), 0, none⟩)), (vI .i64 cnt), (vQ sb)], tr sb (pa sb (upC O (some ((Value.iface jt jx), ke)) ((⟨false, f36_p, f36_o⟩ : Fr K) :: f36_C))) (Tr.nd (⟨b18_, (Value.iface it ix), (Value.iface jt jx), (Value.iface vt vx), (Value.iface jt jx), 1, kb, ke, ke⟩ : ND K) (Tr.lf : Tr K) (Tr.lf : Tr K)), cx sb ((⟨b18_, (Value.iface it ix), (Value.iface jt jx), (Value.iface vt vx), (Value.iface jt jx), 1, kb, ke, ke⟩ : ND K).a) (upC O (some ((Value.iface jt jx), ke)) ((⟨false, f36_p, f36_o⟩ : Fr K) :: f36_C)), clf sb 185 sc]) rfl (lcons rfl (lcons ((by first | rfl | omega | (simp; done) | (simp; omega)) : (vQ b18_) = (vP (some ⟨(⟨b18_, (Value.iface it ix), (Value.iface jt jx), (Value.iface vt vx), (Value.iface jt jx), 1, kb, ke, ke⟩ : ND K).a, 0, none⟩))) rfl)) cb162 (itFix R K O tb sb cnt sc (⟨b18_, (Value.iface it ix), (Value.iface jt jx), (Value.iface vt vx), (Value.iface jt jx), 1, kb, ke, ke⟩ : ND K) (Tr.lf : Tr K) (Tr.lf : Tr K) (upC O (some ((Value.iface jt jx), ke)) ((⟨false, f36_p, f36_o⟩ : Fr K) :: f36_C)) (inl ((⟨false, f36_p, f36_o⟩ : Fr K) :: f36_C) ++ (⟨b18_, (Value.iface it ix), (Value.iface jt jx), (Value.iface vt vx), (Value.iface jt jx), 1, kb, ke, ke⟩ : ND K).er :: inr ((⟨false, f36_p, f36_o⟩ : Fr K) :: f36_C)) (hFx_)) H187_ ?_)
     rintro v184_ p191_ w188_ ⟨W185_, rfl, rfl, he186_⟩ S190_ H189_
     have S192_ := Same.trans S172_ S190_
     refine wpList_nil (X_then (hK173_ _ _ ?_))
     clear hK173_
     refine C_reg ?_
     refine sv (v := (vQ tb)) (x_move rfl) ?_
     refine sv (v := (vQ tb)) (by kernel_rfl) ?_
     refine sv (v := (vP (some ⟨tb, 1, none⟩))) (by kernel_rfl) ?_
     refine sv (v := (vI .i64 cnt)) (x_load1 rfl Try.underlying3 rfl ((Holds.rd H189_ 1 rfl) 1 (vI .i64 cnt) rfl)) ?_
     refine sv (v := (vI .i64 (cnt + 1))) (x_bin rfl rfl (ib_add (IntWalk.i64_in _ (by omega)))) ?_
     refine sv (v := (vQ tb)) (by kernel_rfl) ?_
     refine sv (v := (vP (some ⟨tb, 1, none⟩))) (by kernel_rfl) ?_
     refine S_list0 (T_store1 (v := (vI .i64 (cnt + 1))) rfl rfl z3 rfl H189_ 1 rfl (Nat.le_of_ble_eq_true (by rfl)) ?_)
     intro w193_ S195_ H194_
     have S196_ := Same.trans S192_ S195_
     refine wpList_nil ?_
     refine R_0 rfl ?_
     have H197_ : Holds w193_ (ro R :: cl tb 188 [(vQ (rt sb W185_)), (vI .i64 (cnt + 1)), (vQ sb)] :: tr sb sb W185_ :: clf sb 185 sc :: F) := (Holds.pkF H194_ [0, 0, 0, 0] 2 :)
     exact ⟨_, _, rfl, ⟨W185_, (inl ((⟨false, f36_p, f36_o⟩ : Fr K) :: f36_C)), (inr ((⟨false, f36_p, f36_o⟩ : Fr K) :: f36_C)), (⟨b18_, (Value.iface it ix), (Value.iface jt jx), (Value.iface vt vx), (Value.iface jt jx), 1, kb, ke, ke⟩ : ND K), rfl, rfl, (⟨he186_.1, he186_.2.1, he186_.2.2.2⟩), (he186_.2.2.1), (by rw [ino_plug]; simp [ino]), (⟨rfl, rfl, rfl, rfl, rfl⟩), (by rw [he186_.2.2.1]; exact ins_srt hway (by have := hs; rw [ino_plug] at this; simpa [ino] using this))⟩, S196_, H197_⟩
  ·skip
   subst hpl
   have H198_ := H34_; rw [show rt sb (plug ((⟨true, f36_p, f36_o⟩ : Fr K) :: f36_C) (Tr.lf : Tr K)) = ra f36_p.a f36_C from rt_plug sb f36_C f36_p (Tr.lf : Tr K) f36_o] at H198_
   have H199_ : Holds w28_ (cx sb sb ((⟨true, f36_p, f36_o⟩ : Fr K) :: f36_C) :: clf b18_ 185 [((Value.iface it ix)), ((Value.iface jt jx)), ((Value.iface vt vx)), ((Value.iface jt jx)), (vQ sb), (vQ sb), (vQ sb), (vI .i64 1)] :: cl b10_ 111 [((Value.iface it ix)), ((Value.iface jt jx))] :: cl b2_ 111 [((Value.iface it ix)), ((Value.iface jt jx))] :: ro R :: cl tb 188 [(vQ (ra f36_p.a f36_C)), (vI .i64 cnt), (vQ sb)] :: tr sb f36_p.a (Tr.lf : Tr K) :: clf sb 185 sc :: F) := (H198_)
   have H200_ := Holds.cx_cons H199_
   obtain ⟨ht_, hcx_⟩ : LocT O (Tr.lf : Tr K) ∧ LocC O none ((⟨true, f36_p, f36_o⟩ : Fr K) :: f36_C) := loc_unplug (C := ((⟨true, f36_p, f36_o⟩ : Fr K) :: f36_C)) (t := (Tr.lf : Tr K)) hW1.2.1
   have hck_ : COk O R ((⟨true, f36_p, f36_o⟩ : Fr K) :: f36_C) := hCk
   have hkp_ := (hck_ _ (List.mem_cons_self ..)).1
   have hw_ := hway.1; unfold bef at hw_; simp only [if_true, if_false, Bool.false_eq_true] at hw_
   refine sv (v := (vQ b18_)) (x_move rfl) ?_
   refine sv (v := (vQ f36_p.a)) (x_move rfl) ?_
   refine sv (v := (vQ b18_)) (by kernel_rfl) ?_
   refine sv (v := (vP (some ⟨b18_, 6, none⟩))) (by kernel_rfl) ?_
   refine S_list0 (T_store1f (v := (vQ f36_p.a)) rfl rfl z182 rfl H200_ 3 rfl (Nat.le_of_ble_eq_true (by rfl)) ?_)
   intro w201_ S203_ H202_
   have S204_ := Same.trans S30_ S203_
   refine wpList_nil (X_then (hK35_ _ _ ?_))
   clear hK35_
   refine C_seq (fun K205_ hK205_ => ?_)
   refine C_seq (fun K206_ hK206_ => C_reg ?_)
   refine sv (v := (vQ f36_p.a)) (x_move rfl) ?_
   refine sv (v := (vQ tb)) (x_move rfl) ?_
   refine sv (v := (vQ tb)) (by kernel_rfl) ?_
   refine sv (v := (vP (some ⟨tb, 2, none⟩))) (by kernel_rfl) ?_
   refine sv (v := (vQ sb)) (x_load1 rfl Try.underlying182 rfl ((Holds.rd H202_ 7 rfl) 2 (vQ sb) rfl)) ?_
   have hpc207_ : f36_p.a ≠ sb := Holds.ne_f H202_ 0 rfl 9 rfl (by decide)
   refine sv (v := (vB false)) (x_cast (x_eqPN rfl rfl Try.underlying182 z185 (by decide) (Holds.blk H202_ 0 rfl) (Holds.blk H202_ 9 rfl)) (congrArg vB (decide_eq_false hpc207_))) ?_
   refine wpList_nil (X_then (hK206_ _ _ ?_))
   clear hK206_
   refine C_condF rfl ?_
   refine C_seq (fun K208_ hK208_ => ?_)
   refine A_start (S := fun w => (Rd f36_p.a [f36_p.b, f36_p.e, f36_p.v, f36_p.mx, (vQ sb), (vQ (rt sb f36_o)), (vQ (pa sb f36_C)), (vI .i64 f36_p.c)] w ∧ Blk w f36_p.a) ∧ RtRd w (rt sb f36_o) (rmx f36_o) ∧ (Rd b18_ [((Value.iface it ix)), ((Value.iface jt jx)), ((Value.iface vt vx)), ((Value.iface jt jx)), (vQ sb), (vQ sb), (vQ f36_p.a), (vI .i64 1)] w ∧ Blk w b18_) ∧ RtRd w (rt sb (Tr.lf : Tr K)) (rmx (Tr.lf : Tr K)) ∧ Sub R (hp w)) (N := 16) foll rfl rfl ?_
   have H209_ := Holds.drew_ H202_
   have hq210_ := And.intro ((And.intro (Holds.rdf H209_ 0 rfl) (Holds.blk H209_ 0 rfl))) (And.intro (Holds.tr_rd H209_ 1 rfl 9 rfl) (And.intro ((And.intro (Holds.rdf H209_ 3 rfl) (Holds.blk H209_ 3 rfl))) (And.intro (Holds.tr_rd H209_ 8 rfl 9 rfl) ((Holds.ro_at H209_ 6 rfl)))))
   refine A_tk 0 (v := (vQ b18_)) rfl (by kernel_rfl) (fun w hS => x_move rfl) hq210_ ?_
   refine A_tk 1 (v := (vQ b18_)) rfl (by kernel_rfl) (fun w hS => by kernel_rfl) hq210_ ?_
   refine A_tk 2 (v := (vQ b18_)) rfl (by kernel_rfl) (fun w hS => by kernel_rfl) hq210_ ?_
   refine A_tk 3 (v := (vQ b18_)) rfl (by kernel_rfl) (fun w hS => by kernel_rfl) hq210_ ?_
   refine A_tk 4 (v := (vQ b18_)) rfl (by kernel_rfl) (fun w hS => by kernel_rfl) hq210_ ?_
   refine A_tk 5 (v := ((Value.iface it ix))) rfl (by kernel_rfl) (fun w hS => x_load1 rfl Try.underlying109 rfl (hS.2.2.1.1 0 ((Value.iface it ix)) rfl)) hq210_ ?_
   refine A_tk 6 (v := (vQ f36_p.a)) rfl (by kernel_rfl) (fun w hS => x_move rfl) hq210_ ?_
   refine A_tk 7 (v := (vQ f36_p.a)) rfl (by kernel_rfl) (fun w hS => by kernel_rfl) hq210_ ?_
   refine A_tk 8 (v := (vQ f36_p.a)) rfl (by kernel_rfl) (fun w hS => by kernel_rfl) hq210_ ?_
   refine A_tk 9 (v := (vQ f36_p.a)) rfl (by kernel_rfl) (fun w hS => by kernel_rfl) hq210_ ?_
   refine A_tk 10 (v := (vQ f36_p.a)) rfl (by kernel_rfl) (fun w hS => by kernel_rfl) hq210_ ?_
   refine A_tk 11 (v := f36_p.b) rfl (by kernel_rfl) (fun w hS => x_load1 rfl Try.underlying109 rfl (hS.1.1 0 f36_p.b rfl)) hq210_ ?_
   refine A_tk 12 (v := ((Value.iface it ix))) rfl (by kernel_rfl) (fun w hS => by kernel_rfl) hq210_ ?_
   refine A_tk 13 (v := ((Value.iface it ix))) rfl (by kernel_rfl) (fun w hS => x_move rfl) hq210_ ?_
   refine A_ready (i := 14) (rs := []) (by kernel_rfl) ?_
   refine AllR.cons ?_ AllR.nil
   refine A_op (ls' := #[true, true, true, true, true, true, true, true, true, true, true, true, true, true, true, false]) rfl (by kernel_rfl) (T_cmp rfl rfl (O.cmp hb (hkp_.b)) H209_ 6 rfl ?_)
   intro w211_ S213_ H212_
   have S214_ := Same.trans (Same.trans S204_ (Same.drew _)) S213_
   refine ⟨⟨(And.intro (Holds.rdf H212_ 0 rfl) (Holds.blk H212_ 0 rfl)), Holds.tr_rd H212_ 1 rfl 9 rfl, (And.intro (Holds.rdf H212_ 3 rfl) (Holds.blk H212_ 3 rfl)), Holds.tr_rd H212_ 8 rfl 9 rfl, (Holds.ro_at H212_ 6 rfl)⟩, ?_⟩
   have hq215_ := And.intro ((And.intro (Holds.rdf H212_ 0 rfl) (Holds.blk H212_ 0 rfl))) (And.intro (Holds.tr_rd H212_ 1 rfl 9 rfl) (And.intro ((And.intro (Holds.rdf H212_ 3 rfl) (Holds.blk H212_ 3 rfl))) (And.intro (Holds.tr_rd H212_ 8 rfl 9 rfl) ((Holds.ro_at H212_ 6 rfl)))))
   refine A_tk 15 (v := (vI .i64 (O.cm kb f36_p.kb))) rfl (by kernel_rfl) (fun w hS => x_assign rfl) hq215_ ?_
   refine A_done (by kernel_rfl) ?_
   refine (X_then (hK208_ _ _ ?_))
   clear hK208_
   refine C_seq (fun K216_ hK216_ => ?_)
   refine C_seq (fun K217_ hK217_ => C_reg ?_)
   refine sv (v := (vI .i64 (O.cm kb f36_p.kb))) (x_move rfl) ?_
   refine sv (v := (vB (decide (O.cm kb f36_p.kb < 0)))) (x_bin rfl rfl rfl) ?_
   refine wpList_nil (X_then (hK217_ _ _ ?_))
   clear hK217_
   refine C_cond (b := decide (O.cm kb f36_p.kb < 0)) rfl (fun c218_t => ?_) (fun c218_f => ?_)
   ·have c218_tp : O.cm kb f36_p.kb < 0 := of_decide_eq_true c218_t
    refine C_reg ?_
    refine sv (v := (vQ f36_p.a)) (x_move rfl) ?_
    refine sv (v := (vQ b18_)) (x_move rfl) ?_
    refine sv (v := (vQ f36_p.a)) (by kernel_rfl) ?_
    refine sv (v := (vP (some ⟨f36_p.a, 4, none⟩))) (by kernel_rfl) ?_
    refine S_list0 (T_store1f (v := (vQ b18_)) rfl rfl z182 rfl H212_ 0 rfl (Nat.le_of_ble_eq_true (by rfl)) ?_)
    intro w219_ S221_ H220_
    have S222_ := Same.trans S214_ S221_
    refine wpList_nil (X_then (hK216_ _ _ ?_))
    clear hK216_
    refine C_reg ?_
    refine sv (v := (vQ f36_p.a)) (x_move rfl) ?_
    refine sv (v := (vQ tb)) (x_move rfl) ?_
    refine sv (v := (vQ tb)) (by kernel_rfl) ?_
    refine sv (v := (vP (some ⟨tb, 2, none⟩))) (by kernel_rfl) ?_
    refine sv (v := (vQ sb)) (x_load1 rfl Try.underlying182 rfl ((Holds.rd H220_ 7 rfl) 2 (vQ sb) rfl)) ?_
    have H223_ := Holds.cons_cx (sb := sb) (f := (⟨true, f36_p, f36_o⟩ : Fr K)) (C := f36_C) (x := b18_) H220_
    have H224_ : Holds w219_ (cx sb (ha sb (some ((⟨b18_, (Value.iface it ix), (Value.iface jt jx), (Value.iface vt vx), (Value.iface jt jx), 1, kb, ke, ke⟩ : ND K), sb, sb, f36_p.a))) ((⟨true, f36_p, f36_o⟩ : Fr K) :: f36_C) :: hol (some ((⟨b18_, (Value.iface it ix), (Value.iface jt jx), (Value.iface vt vx), (Value.iface jt jx), 1, kb, ke, ke⟩ : ND K), sb, sb, f36_p.a)) :: cl b10_ 111 [((Value.iface it ix)), ((Value.iface jt jx))] :: cl b2_ 111 [((Value.iface it ix)), ((Value.iface jt jx))] :: ro R :: cl tb 188 [(vQ (ra f36_p.a f36_C)), (vI .i64 cnt), (vQ sb)] :: tr sb f36_p.a (Tr.lf : Tr K) :: clf sb 185 sc :: F) := (H223_)
    have H226_ := ((Holds.bring (Holds.bring (Holds.bring (Holds.bring H224_ 7 rfl) 1 rfl) 2 rfl) 5 rfl) :)
    refine S_list (T_call (al := [(vP (some ⟨(pa sb ((⟨true, f36_p, f36_o⟩ : Fr K) :: f36_C)), 0, none⟩)), (vQ sb)]) (pre := [hol (some ((⟨b18_, (Value.iface it ix), (Value.iface jt jx), (Value.iface vt vx), (Value.iface jt jx), 1, kb, ke, ke⟩ : ND K), sb, sb, f36_p.a)), cx sb (ha sb (some ((⟨b18_, (Value.iface it ix), (Value.iface jt jx), (Value.iface vt vx), (Value.iface jt jx), 1, kb, ke, ke⟩ : ND K), sb, sb, f36_p.a))) ((⟨true, f36_p, f36_o⟩ : Fr K) :: f36_C), clf sb 185 sc]) rfl (lcons ((by first | rfl | omega | (simp; done) | (simp; omega)) : (vQ f36_p.a) = (vP (some ⟨(pa sb ((⟨true, f36_p, f36_o⟩ : Fr K) :: f36_C)), 0, none⟩))) rfl) cb142 (itUpMax R K O sb sc (some ((⟨b18_, (Value.iface it ix), (Value.iface jt jx), (Value.iface vt vx), (Value.iface jt jx), 1, kb, ke, ke⟩ : ND K), sb, sb, f36_p.a)) ((⟨true, f36_p, f36_o⟩ : Fr K) :: f36_C) (hck_) (fun q hq => by cases hq; exact he)) H226_ ?_)
    rintro v225_ p230_ w227_ ⟨rfl, rfl⟩ S229_ H228_
    have S231_ := Same.trans S222_ S229_
    have H232_ : Holds w227_ (ro R :: clf b18_ 185 [((Value.iface it ix)), ((Value.iface jt jx)), ((Value.iface vt vx)), ((Value.iface jt jx)), (vQ sb), (vQ sb), (vQ f36_p.a), (vI .i64 1)] :: cx sb b18_ (upC O (some ((Value.iface jt jx), ke)) ((⟨true, f36_p, f36_o⟩ : Fr K) :: f36_C)) :: clf sb 185 sc :: cl b10_ 111 [((Value.iface it ix)), ((Value.iface jt jx))] :: cl b2_ 111 [((Value.iface it ix)), ((Value.iface jt jx))] :: cl tb 188 [(vQ (ra f36_p.a f36_C)), (vI .i64 cnt), (vQ sb)] :: tr sb f36_p.a (Tr.lf : Tr K) :: F) := (H228_)
    refine wpList_nil (X_then (hK205_ _ _ ?_))
    clear hK205_
    refine C_seq (fun K233_ hK233_ => C_reg ?_)
    refine sv (v := (vQ b18_)) (x_move rfl) ?_
    refine sv (v := (vQ b18_)) (by kernel_rfl) ?_
    refine sv (v := (vP (some ⟨b18_, 7, none⟩))) (by kernel_rfl) ?_
    refine S_list0 (T_store1f (v := (vI .i64 1)) rfl rfl z183 rfl H232_ 1 rfl (Nat.le_of_ble_eq_true (by rfl)) ?_)
    intro w234_ S236_ H235_
    have S237_ := Same.trans S231_ S236_
    refine wpList_nil (X_then (hK233_ _ _ ?_))
    clear hK233_
    refine C_seq (fun K238_ hK238_ => C_reg ?_)
    refine sv (v := (vQ tb)) (x_move rfl) ?_
    refine sv (v := (vQ b18_)) (x_move rfl) ?_
    have H239_ : Holds w234_ (ro R :: clf b18_ 185 [((Value.iface it ix)), ((Value.iface jt jx)), ((Value.iface vt vx)), ((Value.iface jt jx)), (vQ sb), (vQ sb), (vQ f36_p.a), (vI .i64 1)] :: cx sb b18_ (upC O (some ((Value.iface jt jx), ke)) ((⟨true, f36_p, f36_o⟩ : Fr K) :: f36_C)) :: clf sb 185 sc :: cl b10_ 111 [((Value.iface it ix)), ((Value.iface jt jx))] :: cl b2_ 111 [((Value.iface it ix)), ((Value.iface jt jx))] :: cl tb 188 [(vQ (ra f36_p.a f36_C)), (vI .i64 cnt), (vQ sb)] :: F) := (Holds.pkF H235_ [0, 0, 0, 0, 0, 0, 0] 1 :)
    have H240_ : Holds w234_ (tr sb b18_ (Tr.lf : Tr K) :: ro R :: clf b18_ 185 [((Value.iface it ix)), ((Value.iface jt jx)), ((Value.iface vt vx)), ((Value.iface jt jx)), (vQ sb), (vQ sb), (vQ f36_p.a), (vI .i64 1)] :: cx sb b18_ (upC O (some ((Value.iface jt jx), ke)) ((⟨true, f36_p, f36_o⟩ : Fr K) :: f36_C)) :: clf sb 185 sc :: cl b10_ 111 [((Value.iface it ix)), ((Value.iface jt jx))] :: cl b2_ 111 [((Value.iface it ix)), ((Value.iface jt jx))] :: cl tb 188 [(vQ (ra f36_p.a f36_C)), (vI .i64 cnt), (vQ sb)] :: F) := Holds.lf_tr H239_
    have H241_ : Holds w234_ (tr sb b18_ (Tr.lf : Tr K) :: tr sb b18_ (Tr.lf : Tr K) :: ro R :: clf b18_ 185 [((Value.iface it ix)), ((Value.iface jt jx)), ((Value.iface vt vx)), ((Value.iface jt jx)), (vQ sb), (vQ sb), (vQ f36_p.a), (vI .i64 1)] :: cx sb b18_ (upC O (some ((Value.iface jt jx), ke)) ((⟨true, f36_p, f36_o⟩ : Fr K) :: f36_C)) :: clf sb 185 sc :: cl b10_ 111 [((Value.iface it ix)), ((Value.iface jt jx))] :: cl b2_ 111 [((Value.iface it ix)), ((Value.iface jt jx))] :: cl tb 188 [(vQ (ra f36_p.a f36_C)), (vI .i64 cnt), (vQ sb)] :: F) := Holds.lf_tr H240_
    have H242_ := ((Holds.bring (Holds.bring (Holds.bring H241_ 1 rfl) 1 rfl) 3 rfl) :)
    have H243_ := Holds.nd_tr (n := (⟨b18_, (Value.iface it ix), (Value.iface jt jx), (Value.iface vt vx), (Value.iface jt jx), 1, kb, ke, ke⟩ : ND K)) (a := (Tr.lf : Tr K)) (b := (Tr.lf : Tr K)) H242_
    have H244_ : Holds w234_ (tr sb (pa sb ((⟨true, f36_p, f36_o⟩ : Fr K) :: f36_C)) (Tr.nd (⟨b18_, (Value.iface it ix), (Value.iface jt jx), (Value.iface vt vx), (Value.iface jt jx), 1, kb, ke, ke⟩ : ND K) (Tr.lf : Tr K) (Tr.lf : Tr K)) :: ro R :: cx sb b18_ (upC O (some ((Value.iface jt jx), ke)) ((⟨true, f36_p, f36_o⟩ : Fr K) :: f36_C)) :: clf sb 185 sc :: cl b10_ 111 [((Value.iface it ix)), ((Value.iface jt jx))] :: cl b2_ 111 [((Value.iface it ix)), ((Value.iface jt jx))] :: cl tb 188 [(vP (some ⟨(ra b18_ ((⟨true, f36_p, f36_o⟩ : Fr K) :: f36_C)), 0, none⟩)), (vI .i64 cnt), (vQ sb)] :: F) := (H243_)
    have H245_ := H244_; rw [← pa_upC (O := O) sb ((⟨true, f36_p, f36_o⟩ : Fr K) :: f36_C) (some ((Value.iface jt jx), ke)), ← ra_upC O ((⟨true, f36_p, f36_o⟩ : Fr K) :: f36_C) b18_ (some ((Value.iface jt jx), ke))] at H245_
    have H246_ : Holds w234_ (tr sb (pa sb (upC O (some ((Value.iface jt jx), ke)) ((⟨true, f36_p, f36_o⟩ : Fr K) :: f36_C))) (Tr.nd (⟨b18_, (Value.iface it ix), (Value.iface jt jx), (Value.iface vt vx), (Value.iface jt jx), 1, kb, ke, ke⟩ : ND K) (Tr.lf : Tr K) (Tr.lf : Tr K)) :: ro R :: cx sb b18_ (upC O (some ((Value.iface jt jx), ke)) ((⟨true, f36_p, f36_o⟩ : Fr K) :: f36_C)) :: clf sb 185 sc :: cl b10_ 111 [((Value.iface it ix)), ((Value.iface jt jx))] :: cl b2_ 111 [((Value.iface it ix)), ((Value.iface jt jx))] :: cl tb 188 [(vP (some ⟨(ra b18_ (upC O (some ((Value.iface jt jx), ke)) ((⟨true, f36_p, f36_o⟩ : Fr K) :: f36_C))), 0, none⟩)), (vI .i64 cnt), (vQ sb)] :: F) := (H245_)
    have hFx_ : FxI O R (inl ((⟨true, f36_p, f36_o⟩ : Fr K) :: f36_C) ++ (⟨b18_, (Value.iface it ix), (Value.iface jt jx), (Value.iface vt vx), (Value.iface jt jx), 1, kb, ke, ke⟩ : ND K).er :: inr ((⟨true, f36_p, f36_o⟩ : Fr K) :: f36_C)) (upC O (some ((Value.iface jt jx), ke)) ((⟨true, f36_p, f36_o⟩ : Fr K) :: f36_C)) (Tr.nd (⟨b18_, (Value.iface it ix), (Value.iface jt jx), (Value.iface vt vx), (Value.iface jt jx), 1, kb, ke, ke⟩ : ND K) (Tr.lf : Tr K) (Tr.lf : Tr K)) := ins_fx hW1 hCk hb he
    have H247_ := Holds.recl H246_ 6 rfl ((lcons ((by first | rfl | omega | (simp; done) | (simp; omega)) : (vP (some ⟨(ra b18_ (upC O (some ((Value.iface jt jx), ke)) ((⟨true, f36_p, f36_o⟩ : Fr K) :: f36_C))), 0, none⟩)) = (vP (some ⟨(ra (⟨b18_, (Value.iface it ix), (Value.iface jt jx), (Value.iface vt vx), (Value.iface jt jx), 1, kb, ke, ke⟩ : ND K).a (upC O (some ((Value.iface jt jx), ke)) ((⟨true, f36_p, f36_o⟩ : Fr K) :: f36_C))), 0, none⟩))) rfl) : [(vP (some ⟨(ra b18_ (upC O (some ((Value.iface jt jx), ke)) ((⟨true, f36_p, f36_o⟩ : Fr K) :: f36_C))), 0, none⟩)), (vI .i64 cnt), (vQ sb)] = [(vP (some ⟨(ra (⟨b18_, (Value.iface it ix), (Value.iface jt jx), (Value.iface vt vx), (Value.iface jt jx), 1, kb, ke, ke⟩ : ND K).a (upC O (some ((Value.iface jt jx), ke)) ((⟨true, f36_p, f36_o⟩ : Fr K) :: f36_C))), 0, none⟩)), (vI .i64 cnt), (vQ sb)])
    have eH248_ : cx sb b18_ (upC O (some ((Value.iface jt jx), ke)) ((⟨true, f36_p, f36_o⟩ : Fr K) :: f36_C)) = cx sb ((⟨b18_, (Value.iface it ix), (Value.iface jt jx), (Value.iface vt vx), (Value.iface jt jx), 1, kb, ke, ke⟩ : ND K).a) (upC O (some ((Value.iface jt jx), ke)) ((⟨true, f36_p, f36_o⟩ : Fr K) :: f36_C)) := by first | rfl | (congr 1 <;> first | rfl | omega | (simp; done) | (simp; omega))
    have H248_ : Holds w234_ (tr sb (pa sb (upC O (some ((Value.iface jt jx), ke)) ((⟨true, f36_p, f36_o⟩ : Fr K) :: f36_C))) (Tr.nd (⟨b18_, (Value.iface it ix), (Value.iface jt jx), (Value.iface vt vx), (Value.iface jt jx), 1, kb, ke, ke⟩ : ND K) (Tr.lf : Tr K) (Tr.lf : Tr K)) :: ro R :: cx sb ((⟨b18_, (Value.iface it ix), (Value.iface jt jx), (Value.iface vt vx), (Value.iface jt jx), 1, kb, ke, ke⟩ : ND K).a) (upC O (some ((Value.iface jt jx), ke)) ((⟨true, f36_p, f36_o⟩ : Fr K) :: f36_C)) :: clf sb 185 sc :: cl b10_ 111 [((Value.iface it ix)), ((Value.iface jt jx))] :: cl b2_ 111 [((Value.iface it ix)), ((Value.iface jt jx))] :: cl tb 188 [(vP (some ⟨(ra (⟨b18_, (Value.iface it ix), (Value.iface jt jx), (Value.iface vt vx), (Value.iface jt jx), 1, kb, ke, ke⟩ : ND K).a (upC O (some ((Value.iface jt jx), ke)) ((⟨true, f36_p, f36_o⟩ : Fr K) :: f36_C))), 0, none⟩)), (vI .i64 cnt), (vQ sb)] :: F) := cast1 (P := fun c__ => Holds w234_ (tr sb (pa sb (upC O (some ((Value.iface jt jx), ke)) ((⟨true, f36_p, f36_o⟩ : Fr K) :: f36_C))) (Tr.nd (⟨b18_, (Value.iface it ix), (Value.iface jt jx), (Value.iface vt vx), (Value.iface jt jx), 1, kb, ke, ke⟩ : ND K) (Tr.lf : Tr K) (Tr.lf : Tr K)) :: ro R :: c__ :: clf sb 185 sc :: cl b10_ 111 [((Value.iface it ix)), ((Value.iface jt jx))] :: cl b2_ 111 [((Value.iface it ix)), ((Value.iface jt jx))] :: cl tb 188 [(vP (some ⟨(ra (⟨b18_, (Value.iface it ix), (Value.iface jt jx), (Value.iface vt vx), (Value.iface jt jx), 1, kb, ke, ke⟩ : ND K).a (upC O (some ((Value.iface jt jx), ke)) ((⟨true, f36_p, f36_o⟩ : Fr K) :: f36_C))), 0, none⟩)), (vI .i64 cnt), (vQ sb)] :: F)) eH248_ H247_
    have H252_ := ((Holds.bring (Holds.bring (Holds.bring (Holds.bring (Holds.bring H248_ 3 rfl) 3 rfl) 2 rfl) 6 rfl) 4 rfl) :)
    refine S_list (T_call (al := [(vQ tb), (vP (some ⟨(⟨b18_, (Value.iface it ix), (Value.iface jt jx), (Value.iface vt vx), (Value.iface jt jx), 1, kb, ke, ke⟩ : ND K).a, 0, none⟩))]) (pre := [cl tb 188 [(vP (some ⟨(ra (⟨b18_, (Value.iface it ix), (Value.iface jt jx), (Value.iface vt vx), (Value.iface jt jx), 1, kb, ke, ke⟩ : ND K).a (upC O (some ((Value.iface jt jx), ke)) ((⟨true, f36_p, f36_o⟩ : Fr K) :: f36_C))), 0, none⟩)), (vI .i64 cnt), (vQ sb)], tr sb (pa sb (upC O (some ((Value.iface jt jx), ke)) ((⟨true, f36_p, f36_o⟩ : Fr K) :: f36_C))) (Tr.nd (⟨b18_, (Value.iface it ix), (Value.iface jt jx), (Value.iface vt vx), (Value.iface jt jx), 1, kb, ke, ke⟩ : ND K) (Tr.lf : Tr K) (Tr.lf : Tr K)), cx sb ((⟨b18_, (Value.iface it ix), (Value.iface jt jx), (Value.iface vt vx), (Value.iface jt jx), 1, kb, ke, ke⟩ : ND K).a) (upC O (some ((Value.iface jt jx), ke)) ((⟨true, f36_p, f36_o⟩ : Fr K) :: f36_C)), clf sb 185 sc]) rfl (lcons rfl (lcons ((by first | rfl | omega | (simp; done) | (simp; omega)) : (vQ b18_) = (vP (some ⟨(⟨b18_, (Value.iface it ix), (Value.iface jt jx), (Value.iface vt vx), (Value.iface jt jx), 1, kb, ke, ke⟩ : ND K).a, 0, none⟩))) rfl)) cb162 (itFix R K O tb sb cnt sc (⟨b18_, (Value.iface it ix), (Value.iface jt jx), (Value.iface vt vx), (Value.iface jt jx), 1, kb, ke, ke⟩ : ND K) (Tr.lf : Tr K) (Tr.lf : Tr K) (upC O (some ((Value.iface jt jx), ke)) ((⟨true, f36_p, f36_o⟩ : Fr K) :: f36_C)) (inl ((⟨true, f36_p, f36_o⟩ : Fr K) :: f36_C) ++ (⟨b18_, (Value.iface it ix), (Value.iface jt jx), (Value.iface vt vx), (Value.iface jt jx), 1, kb, ke, ke⟩ : ND K).er :: inr ((⟨true, f36_p, f36_o⟩ : Fr K) :: f36_C)) (hFx_)) H252_ ?_)
    rintro v249_ p256_ w253_ ⟨W250_, rfl, rfl, he251_⟩ S255_ H254_
    have S257_ := Same.trans S237_ S255_
    refine wpList_nil (X_then (hK238_ _ _ ?_))
    clear hK238_
    refine C_reg ?_
    refine sv (v := (vQ tb)) (x_move rfl) ?_
    refine sv (v := (vQ tb)) (by kernel_rfl) ?_
    refine sv (v := (vP (some ⟨tb, 1, none⟩))) (by kernel_rfl) ?_
    refine sv (v := (vI .i64 cnt)) (x_load1 rfl Try.underlying3 rfl ((Holds.rd H254_ 1 rfl) 1 (vI .i64 cnt) rfl)) ?_
    refine sv (v := (vI .i64 (cnt + 1))) (x_bin rfl rfl (ib_add (IntWalk.i64_in _ (by omega)))) ?_
    refine sv (v := (vQ tb)) (by kernel_rfl) ?_
    refine sv (v := (vP (some ⟨tb, 1, none⟩))) (by kernel_rfl) ?_
    refine S_list0 (T_store1 (v := (vI .i64 (cnt + 1))) rfl rfl z3 rfl H254_ 1 rfl (Nat.le_of_ble_eq_true (by rfl)) ?_)
    intro w258_ S260_ H259_
    have S261_ := Same.trans S257_ S260_
    refine wpList_nil ?_
    refine R_0 rfl ?_
    have H262_ : Holds w258_ (ro R :: cl tb 188 [(vQ (rt sb W250_)), (vI .i64 (cnt + 1)), (vQ sb)] :: tr sb sb W250_ :: clf sb 185 sc :: F) := (Holds.pkF H259_ [0, 0, 0, 0] 2 :)
    exact ⟨_, _, rfl, ⟨W250_, (inl ((⟨true, f36_p, f36_o⟩ : Fr K) :: f36_C)), (inr ((⟨true, f36_p, f36_o⟩ : Fr K) :: f36_C)), (⟨b18_, (Value.iface it ix), (Value.iface jt jx), (Value.iface vt vx), (Value.iface jt jx), 1, kb, ke, ke⟩ : ND K), rfl, rfl, (⟨he251_.1, he251_.2.1, he251_.2.2.2⟩), (he251_.2.2.1), (by rw [ino_plug]; simp [ino]), (⟨rfl, rfl, rfl, rfl, rfl⟩), (by rw [he251_.2.2.1]; exact ins_srt hway (by have := hs; rw [ino_plug] at this; simpa [ino] using this))⟩, S261_, H262_⟩
   ·have c218_fp : ¬ (O.cm kb f36_p.kb < 0) := of_decide_eq_false c218_f
    refine C_seq (fun K263_ hK263_ => C_reg ?_)
    refine sv (v := (vI .i64 (O.cm kb f36_p.kb))) (x_move rfl) ?_
    refine sv (v := (vB (decide (O.cm kb f36_p.kb = 0)))) (x_bin rfl rfl rfl) ?_
    refine wpList_nil (X_then (hK263_ _ _ ?_))
    clear hK263_
    refine C_cond (b := decide (O.cm kb f36_p.kb = 0)) rfl (fun c264_t => ?_) (fun c264_f => ?_)
    ·have c264_tp : O.cm kb f36_p.kb = 0 := of_decide_eq_true c264_t
     refine C_seq (fun K265_ hK265_ => ?_)
     refine A_start (S := fun w => (Rd f36_p.a [f36_p.b, f36_p.e, f36_p.v, f36_p.mx, (vQ sb), (vQ (rt sb f36_o)), (vQ (pa sb f36_C)), (vI .i64 f36_p.c)] w ∧ Blk w f36_p.a) ∧ RtRd w (rt sb f36_o) (rmx f36_o) ∧ (Rd b18_ [((Value.iface it ix)), ((Value.iface jt jx)), ((Value.iface vt vx)), ((Value.iface jt jx)), (vQ sb), (vQ sb), (vQ f36_p.a), (vI .i64 1)] w ∧ Blk w b18_) ∧ RtRd w (rt sb (Tr.lf : Tr K)) (rmx (Tr.lf : Tr K)) ∧ Sub R (hp w)) (N := 16) foll rfl rfl ?_
     have H266_ := Holds.drew_ H212_
     have hq267_ := And.intro ((And.intro (Holds.rdf H266_ 0 rfl) (Holds.blk H266_ 0 rfl))) (And.intro (Holds.tr_rd H266_ 1 rfl 9 rfl) (And.intro ((And.intro (Holds.rdf H266_ 3 rfl) (Holds.blk H266_ 3 rfl))) (And.intro (Holds.tr_rd H266_ 8 rfl 9 rfl) ((Holds.ro_at H266_ 6 rfl)))))
     refine A_tk 0 (v := (vQ b18_)) rfl (by kernel_rfl) (fun w hS => x_move rfl) hq267_ ?_
     refine A_tk 1 (v := (vQ b18_)) rfl (by kernel_rfl) (fun w hS => by kernel_rfl) hq267_ ?_
     refine A_tk 2 (v := (vQ b18_)) rfl (by kernel_rfl) (fun w hS => by kernel_rfl) hq267_ ?_
     refine A_tk 3 (v := (vQ b18_)) rfl (by kernel_rfl) (fun w hS => by kernel_rfl) hq267_ ?_
     refine A_tk 4 (v := (vP (some ⟨b18_, 1, none⟩))) rfl (by kernel_rfl) (fun w hS => by kernel_rfl) hq267_ ?_
     refine A_tk 5 (v := ((Value.iface jt jx))) rfl (by kernel_rfl) (fun w hS => x_load1 rfl Try.underlying109 rfl (hS.2.2.1.1 1 ((Value.iface jt jx)) rfl)) hq267_ ?_
     refine A_tk 6 (v := (vQ f36_p.a)) rfl (by kernel_rfl) (fun w hS => x_move rfl) hq267_ ?_
     refine A_tk 7 (v := (vQ f36_p.a)) rfl (by kernel_rfl) (fun w hS => by kernel_rfl) hq267_ ?_
     refine A_tk 8 (v := (vQ f36_p.a)) rfl (by kernel_rfl) (fun w hS => by kernel_rfl) hq267_ ?_
     refine A_tk 9 (v := (vQ f36_p.a)) rfl (by kernel_rfl) (fun w hS => by kernel_rfl) hq267_ ?_
     refine A_tk 10 (v := (vP (some ⟨f36_p.a, 1, none⟩))) rfl (by kernel_rfl) (fun w hS => by kernel_rfl) hq267_ ?_
     refine A_tk 11 (v := f36_p.e) rfl (by kernel_rfl) (fun w hS => x_load1 rfl Try.underlying109 rfl (hS.1.1 1 f36_p.e rfl)) hq267_ ?_
     refine A_tk 12 (v := ((Value.iface jt jx))) rfl (by kernel_rfl) (fun w hS => by kernel_rfl) hq267_ ?_
     refine A_tk 13 (v := ((Value.iface jt jx))) rfl (by kernel_rfl) (fun w hS => x_move rfl) hq267_ ?_
     refine A_ready (i := 14) (rs := []) (by kernel_rfl) ?_
     refine AllR.cons ?_ AllR.nil
     refine A_op (ls' := #[true, true, true, true, true, true, true, true, true, true, true, true, true, true, true, false]) rfl (by kernel_rfl) (T_cmp rfl rfl (O.cmp he (hkp_.e)) H266_ 6 rfl ?_)
     intro w268_ S270_ H269_
     have S271_ := Same.trans (Same.trans S214_ (Same.drew _)) S270_
     refine ⟨⟨(And.intro (Holds.rdf H269_ 0 rfl) (Holds.blk H269_ 0 rfl)), Holds.tr_rd H269_ 1 rfl 9 rfl, (And.intro (Holds.rdf H269_ 3 rfl) (Holds.blk H269_ 3 rfl)), Holds.tr_rd H269_ 8 rfl 9 rfl, (Holds.ro_at H269_ 6 rfl)⟩, ?_⟩
     have hq272_ := And.intro ((And.intro (Holds.rdf H269_ 0 rfl) (Holds.blk H269_ 0 rfl))) (And.intro (Holds.tr_rd H269_ 1 rfl 9 rfl) (And.intro ((And.intro (Holds.rdf H269_ 3 rfl) (Holds.blk H269_ 3 rfl))) (And.intro (Holds.tr_rd H269_ 8 rfl 9 rfl) ((Holds.ro_at H269_ 6 rfl)))))
     refine A_tk 15 (v := (vB (decide (O.cm ke f36_p.ke < 0)))) rfl (by kernel_rfl) (fun w hS => x_bin rfl rfl rfl) hq272_ ?_
     refine A_done (by kernel_rfl) ?_
     refine (X_then (hK265_ _ _ ?_))
     clear hK265_
     refine C_cond (b := decide (O.cm ke f36_p.ke < 0)) rfl (fun c273_t => ?_) (fun c273_f => ?_)
     ·have c273_tp : O.cm ke f36_p.ke < 0 := of_decide_eq_true c273_t
      refine C_reg ?_
      refine sv (v := (vQ f36_p.a)) (x_move rfl) ?_
      refine sv (v := (vQ b18_)) (x_move rfl) ?_
      refine sv (v := (vQ f36_p.a)) (by kernel_rfl) ?_
      refine sv (v := (vP (some ⟨f36_p.a, 4, none⟩))) (by kernel_rfl) ?_
      refine S_list0 (T_store1f (v := (vQ b18_)) rfl rfl z182 rfl H269_ 0 rfl (Nat.le_of_ble_eq_true (by rfl)) ?_)
      intro w274_ S276_ H275_
      have S277_ := Same.trans S271_ S276_
      refine wpList_nil (X_then (hK216_ _ _ ?_))
      clear hK216_
      refine C_reg ?_
      refine sv (v := (vQ f36_p.a)) (x_move rfl) ?_
      refine sv (v := (vQ tb)) (x_move rfl) ?_
      refine sv (v := (vQ tb)) (by kernel_rfl) ?_
      refine sv (v := (vP (some ⟨tb, 2, none⟩))) (by kernel_rfl) ?_
      refine sv (v := (vQ sb)) (x_load1 rfl Try.underlying182 rfl ((Holds.rd H275_ 7 rfl) 2 (vQ sb) rfl)) ?_
      have H278_ := Holds.cons_cx (sb := sb) (f := (⟨true, f36_p, f36_o⟩ : Fr K)) (C := f36_C) (x := b18_) H275_
      have H279_ : Holds w274_ (cx sb (ha sb (some ((⟨b18_, (Value.iface it ix), (Value.iface jt jx), (Value.iface vt vx), (Value.iface jt jx), 1, kb, ke, ke⟩ : ND K), sb, sb, f36_p.a))) ((⟨true, f36_p, f36_o⟩ : Fr K) :: f36_C) :: hol (some ((⟨b18_, (Value.iface it ix), (Value.iface jt jx), (Value.iface vt vx), (Value.iface jt jx), 1, kb, ke, ke⟩ : ND K), sb, sb, f36_p.a)) :: cl b10_ 111 [((Value.iface it ix)), ((Value.iface jt jx))] :: cl b2_ 111 [((Value.iface it ix)), ((Value.iface jt jx))] :: ro R :: cl tb 188 [(vQ (ra f36_p.a f36_C)), (vI .i64 cnt), (vQ sb)] :: tr sb f36_p.a (Tr.lf : Tr K) :: clf sb 185 sc :: F) := (H278_)
      have H281_ := ((Holds.bring (Holds.bring (Holds.bring (Holds.bring H279_ 7 rfl) 1 rfl) 2 rfl) 5 rfl) :)
      refine S_list (T_call (al := [(vP (some ⟨(pa sb ((⟨true, f36_p, f36_o⟩ : Fr K) :: f36_C)), 0, none⟩)), (vQ sb)]) (pre := [hol (some ((⟨b18_, (Value.iface it ix), (Value.iface jt jx), (Value.iface vt vx), (Value.iface jt jx), 1, kb, ke, ke⟩ : ND K), sb, sb, f36_p.a)), cx sb (ha sb (some ((⟨b18_, (Value.iface it ix), (Value.iface jt jx), (Value.iface vt vx), (Value.iface jt jx), 1, kb, ke, ke⟩ : ND K), sb, sb, f36_p.a))) ((⟨true, f36_p, f36_o⟩ : Fr K) :: f36_C), clf sb 185 sc]) rfl (lcons ((by first | rfl | omega | (simp; done) | (simp; omega)) : (vQ f36_p.a) = (vP (some ⟨(pa sb ((⟨true, f36_p, f36_o⟩ : Fr K) :: f36_C)), 0, none⟩))) rfl) cb142 (itUpMax R K O sb sc (some ((⟨b18_, (Value.iface it ix), (Value.iface jt jx), (Value.iface vt vx), (Value.iface jt jx), 1, kb, ke, ke⟩ : ND K), sb, sb, f36_p.a)) ((⟨true, f36_p, f36_o⟩ : Fr K) :: f36_C) (hck_) (fun q hq => by cases hq; exact he)) H281_ ?_)
      rintro v280_ p285_ w282_ ⟨rfl, rfl⟩ S284_ H283_
      have S286_ := Same.trans S277_ S284_
      have H287_ : Holds w282_ (ro R :: clf b18_ 185 [((Value.iface it ix)), ((Value.iface jt jx)), ((Value.iface vt vx)), ((Value.iface jt jx)), (vQ sb), (vQ sb), (vQ f36_p.a), (vI .i64 1)] :: cx sb b18_ (upC O (some ((Value.iface jt jx), ke)) ((⟨true, f36_p, f36_o⟩ : Fr K) :: f36_C)) :: clf sb 185 sc :: cl b10_ 111 [((Value.iface it ix)), ((Value.iface jt jx))] :: cl b2_ 111 [((Value.iface it ix)), ((Value.iface jt jx))] :: cl tb 188 [(vQ (ra f36_p.a f36_C)), (vI .i64 cnt), (vQ sb)] :: tr sb f36_p.a (Tr.lf : Tr K) :: F) := (H283_)
      refine wpList_nil (X_then (hK205_ _ _ ?_))
      clear hK205_
      refine C_seq (fun K288_ hK288_ => C_reg ?_)
      refine sv (v := (vQ b18_)) (x_move rfl) ?_
      refine sv (v := (vQ b18_)) (by kernel_rfl) ?_
      refine sv (v := (vP (some ⟨b18_, 7, none⟩))) (by kernel_rfl) ?_
      refine S_list0 (T_store1f (v := (vI .i64 1)) rfl rfl z183 rfl H287_ 1 rfl (Nat.le_of_ble_eq_true (by rfl)) ?_)
      intro w289_ S291_ H290_
      have S292_ := Same.trans S286_ S291_
      refine wpList_nil (X_then (hK288_ _ _ ?_))
      clear hK288_
      refine C_seq (fun K293_ hK293_ => C_reg ?_)
      refine sv (v := (vQ tb)) (x_move rfl) ?_
      refine sv (v := (vQ b18_)) (x_move rfl) ?_
      have H294_ : Holds w289_ (ro R :: clf b18_ 185 [((Value.iface it ix)), ((Value.iface jt jx)), ((Value.iface vt vx)), ((Value.iface jt jx)), (vQ sb), (vQ sb), (vQ f36_p.a), (vI .i64 1)] :: cx sb b18_ (upC O (some ((Value.iface jt jx), ke)) ((⟨true, f36_p, f36_o⟩ : Fr K) :: f36_C)) :: clf sb 185 sc :: cl b10_ 111 [((Value.iface it ix)), ((Value.iface jt jx))] :: cl b2_ 111 [((Value.iface it ix)), ((Value.iface jt jx))] :: cl tb 188 [(vQ (ra f36_p.a f36_C)), (vI .i64 cnt), (vQ sb)] :: F) := (Holds.pkF H290_ [0, 0, 0, 0, 0, 0, 0] 1 :)
      have H295_ : Holds w289_ (tr sb b18_ (Tr.lf : Tr K) :: ro R :: clf b18_ 185 [((Value.iface it ix)), ((Value.iface jt jx)), ((Value.iface vt vx)), ((Value.iface jt jx)), (vQ sb), (vQ sb), (vQ f36_p.a), (vI .i64 1)] :: cx sb b18_ (upC O (some ((Value.iface jt jx), ke)) ((⟨true, f36_p, f36_o⟩ : Fr K) :: f36_C)) :: clf sb 185 sc :: cl b10_ 111 [((Value.iface it ix)), ((Value.iface jt jx))] :: cl b2_ 111 [((Value.iface it ix)), ((Value.iface jt jx))] :: cl tb 188 [(vQ (ra f36_p.a f36_C)), (vI .i64 cnt), (vQ sb)] :: F) := Holds.lf_tr H294_
      have H296_ : Holds w289_ (tr sb b18_ (Tr.lf : Tr K) :: tr sb b18_ (Tr.lf : Tr K) :: ro R :: clf b18_ 185 [((Value.iface it ix)), ((Value.iface jt jx)), ((Value.iface vt vx)), ((Value.iface jt jx)), (vQ sb), (vQ sb), (vQ f36_p.a), (vI .i64 1)] :: cx sb b18_ (upC O (some ((Value.iface jt jx), ke)) ((⟨true, f36_p, f36_o⟩ : Fr K) :: f36_C)) :: clf sb 185 sc :: cl b10_ 111 [((Value.iface it ix)), ((Value.iface jt jx))] :: cl b2_ 111 [((Value.iface it ix)), ((Value.iface jt jx))] :: cl tb 188 [(vQ (ra f36_p.a f36_C)), (vI .i64 cnt), (vQ sb)] :: F) := Holds.lf_tr H295_
      have H297_ := ((Holds.bring (Holds.bring (Holds.bring H296_ 1 rfl) 1 rfl) 3 rfl) :)
      have H298_ := Holds.nd_tr (n := (⟨b18_, (Value.iface it ix), (Value.iface jt jx), (Value.iface vt vx), (Value.iface jt jx), 1, kb, ke, ke⟩ : ND K)) (a := (Tr.lf : Tr K)) (b := (Tr.lf : Tr K)) H297_
      have H299_ : Holds w289_ (tr sb (pa sb ((⟨true, f36_p, f36_o⟩ : Fr K) :: f36_C)) (Tr.nd (⟨b18_, (Value.iface it ix), (Value.iface jt jx), (Value.iface vt vx), (Value.iface jt jx), 1, kb, ke, ke⟩ : ND K) (Tr.lf : Tr K) (Tr.lf : Tr K)) :: ro R :: cx sb b18_ (upC O (some ((Value.iface jt jx), ke)) ((⟨true, f36_p, f36_o⟩ : Fr K) :: f36_C)) :: clf sb 185 sc :: cl b10_ 111 [((Value.iface it ix)), ((Value.iface jt jx))] :: cl b2_ 111 [((Value.iface it ix)), ((Value.iface jt jx))] :: cl tb 188 [(vP (some ⟨(ra b18_ ((⟨true, f36_p, f36_o⟩ : Fr K) :: f36_C)), 0, none⟩)), (vI .i64 cnt), (vQ sb)] :: F) := (H298_)
      have H300_ := H299_; rw [← pa_upC (O := O) sb ((⟨true, f36_p, f36_o⟩ : Fr K) :: f36_C) (some ((Value.iface jt jx), ke)), ← ra_upC O ((⟨true, f36_p, f36_o⟩ : Fr K) :: f36_C) b18_ (some ((Value.iface jt jx), ke))] at H300_
      have H301_ : Holds w289_ (tr sb (pa sb (upC O (some ((Value.iface jt jx), ke)) ((⟨true, f36_p, f36_o⟩ : Fr K) :: f36_C))) (Tr.nd (⟨b18_, (Value.iface it ix), (Value.iface jt jx), (Value.iface vt vx), (Value.iface jt jx), 1, kb, ke, ke⟩ : ND K) (Tr.lf : Tr K) (Tr.lf : Tr K)) :: ro R :: cx sb b18_ (upC O (some ((Value.iface jt jx), ke)) ((⟨true, f36_p, f36_o⟩ : Fr K) :: f36_C)) :: clf sb 185 sc :: cl b10_ 111 [((Value.iface it ix)), ((Value.iface jt jx))] :: cl b2_ 111 [((Value.iface it ix)), ((Value.iface jt jx))] :: cl tb 188 [(vP (some ⟨(ra b18_ (upC O (some ((Value.iface jt jx), ke)) ((⟨true, f36_p, f36_o⟩ : Fr K) :: f36_C))), 0, none⟩)), (vI .i64 cnt), (vQ sb)] :: F) := (H300_)
      have hFx_ : FxI O R (inl ((⟨true, f36_p, f36_o⟩ : Fr K) :: f36_C) ++ (⟨b18_, (Value.iface it ix), (Value.iface jt jx), (Value.iface vt vx), (Value.iface jt jx), 1, kb, ke, ke⟩ : ND K).er :: inr ((⟨true, f36_p, f36_o⟩ : Fr K) :: f36_C)) (upC O (some ((Value.iface jt jx), ke)) ((⟨true, f36_p, f36_o⟩ : Fr K) :: f36_C)) (Tr.nd (⟨b18_, (Value.iface it ix), (Value.iface jt jx), (Value.iface vt vx), (Value.iface jt jx), 1, kb, ke, ke⟩ : ND K) (Tr.lf : Tr K) (Tr.lf : Tr K)) := ins_fx hW1 hCk hb he
      have H302_ := Holds.recl H301_ 6 rfl ((lcons ((by first | rfl | omega | (simp; done) | (simp; omega)) : (vP (some ⟨(ra b18_ (upC O (some ((Value.iface jt jx), ke)) ((⟨true, f36_p, f36_o⟩ : Fr K) :: f36_C))), 0, none⟩)) = (vP (some ⟨(ra (⟨b18_, (Value.iface it ix), (Value.iface jt jx), (Value.iface vt vx), (Value.iface jt jx), 1, kb, ke, ke⟩ : ND K).a (upC O (some ((Value.iface jt jx), ke)) ((⟨true, f36_p, f36_o⟩ : Fr K) :: f36_C))), 0, none⟩))) rfl) : [(vP (some ⟨(ra b18_ (upC O (some ((Value.iface jt jx), ke)) ((⟨true, f36_p, f36_o⟩ : Fr K) :: f36_C))), 0, none⟩)), (vI .i64 cnt), (vQ sb)] = [(vP (some ⟨(ra (⟨b18_, (Value.iface it ix), (Value.iface jt jx), (Value.iface vt vx), (Value.iface jt jx), 1, kb, ke, ke⟩ : ND K).a (upC O (some ((Value.iface jt jx), ke)) ((⟨true, f36_p, f36_o⟩ : Fr K) :: f36_C))), 0, none⟩)), (vI .i64 cnt), (vQ sb)])
      have eH303_ : cx sb b18_ (upC O (some ((Value.iface jt jx), ke)) ((⟨true, f36_p, f36_o⟩ : Fr K) :: f36_C)) = cx sb ((⟨b18_, (Value.iface it ix), (Value.iface jt jx), (Value.iface vt vx), (Value.iface jt jx), 1, kb, ke, ke⟩ : ND K).a) (upC O (some ((Value.iface jt jx), ke)) ((⟨true, f36_p, f36_o⟩ : Fr K) :: f36_C)) := by first | rfl | (congr 1 <;> first | rfl | omega | (simp; done) | (simp; omega))
      have H303_ : Holds w289_ (tr sb (pa sb (upC O (some ((Value.iface jt jx), ke)) ((⟨true, f36_p, f36_o⟩ : Fr K) :: f36_C))) (Tr.nd (⟨b18_, (Value.iface it ix), (Value.iface jt jx), (Value.iface vt vx), (Value.iface jt jx), 1, kb, ke, ke⟩ : ND K) (Tr.lf : Tr K) (Tr.lf : Tr K)) :: ro R :: cx sb ((⟨b18_, (Value.iface it ix), (Value.iface jt jx), (Value.iface vt vx), (Value.iface jt jx), 1, kb, ke, ke⟩ : ND K).a) (upC O (some ((Value.iface jt jx), ke)) ((⟨true, f36_p, f36_o⟩ : Fr K) :: f36_C)) :: clf sb 185 sc :: cl b10_ 111 [((Value.iface it ix)), ((Value.iface jt jx))] :: cl b2_ 111 [((Value.iface it ix)), ((Value.iface jt jx))] :: cl tb 188 [(vP (some ⟨(ra (⟨b18_, (Value.iface it ix), (Value.iface jt jx), (Value.iface vt vx), (Value.iface jt jx), 1, kb, ke, ke⟩ : ND K).a (upC O (some ((Value.iface jt jx), ke)) ((⟨true, f36_p, f36_o⟩ : Fr K) :: f36_C))), 0, none⟩)), (vI .i64 cnt), (vQ sb)] :: F) := cast1 (P := fun c__ => Holds w289_ (tr sb (pa sb (upC O (some ((Value.iface jt jx), ke)) ((⟨true, f36_p, f36_o⟩ : Fr K) :: f36_C))) (Tr.nd (⟨b18_, (Value.iface it ix), (Value.iface jt jx), (Value.iface vt vx), (Value.iface jt jx), 1, kb, ke, ke⟩ : ND K) (Tr.lf : Tr K) (Tr.lf : Tr K)) :: ro R :: c__ :: clf sb 185 sc :: cl b10_ 111 [((Value.iface it ix)), ((Value.iface jt jx))] :: cl b2_ 111 [((Value.iface it ix)), ((Value.iface jt jx))] :: cl tb 188 [(vP (some ⟨(ra (⟨b18_, (Value.iface it ix), (Value.iface jt jx), (Value.iface vt vx), (Value.iface jt jx), 1, kb, ke, ke⟩ : ND K).a (upC O (some ((Value.iface jt jx), ke)) ((⟨true, f36_p, f36_o⟩ : Fr K) :: f36_C))), 0, none⟩)), (vI .i64 cnt), (vQ sb)] :: F)) eH303_ H302_
      have H307_ := ((Holds.bring (Holds.bring (Holds.bring (Holds.bring (Holds.bring H303_ 3 rfl) 3 rfl) 2 rfl) 6 rfl) 4 rfl) :)
      refine S_list (T_call (al := [(vQ tb), (vP (some ⟨(⟨b18_, (Value.iface it ix), (Value.iface jt jx), (Value.iface vt vx), (Value.iface jt jx), 1, kb, ke, ke⟩ : ND K).a, 0, none⟩))]) (pre := [cl tb 188 [(vP (some ⟨(ra (⟨b18_, (Value.iface it ix), (Value.iface jt jx), (Value.iface vt vx), (Value.iface jt jx), 1, kb, ke, ke⟩ : ND K).a (upC O (some ((Value.iface jt jx), ke)) ((⟨true, f36_p, f36_o⟩ : Fr K) :: f36_C))), 0, none⟩)), (vI .i64 cnt), (vQ sb)], tr sb (pa sb (upC O (some ((Value.iface jt jx), ke)) ((⟨true, f36_p, f36_o⟩ : Fr K) :: f36_C))) (Tr.nd (⟨b18_, (Value.iface it ix), (Value.iface jt jx), (Value.iface vt vx), (Value.iface jt jx), 1, kb, ke, ke⟩ : ND K) (Tr.lf : Tr K) (Tr.lf : Tr K)), cx sb ((⟨b18_, (Value.iface it ix), (Value.iface jt jx), (Value.iface vt vx), (Value.iface jt jx), 1, kb, ke, ke⟩ : ND K).a) (upC O (some ((Value.iface jt jx), ke)) ((⟨true, f36_p, f36_o⟩ : Fr K) :: f36_C)), clf sb 185 sc]) rfl (lcons rfl (lcons ((by first | rfl | omega | (simp; done) | (simp; omega)) : (vQ b18_) = (vP (some ⟨(⟨b18_, (Value.iface it ix), (Value.iface jt jx), (Value.iface vt vx), (Value.iface jt jx), 1, kb, ke, ke⟩ : ND K).a, 0, none⟩))) rfl)) cb162 (itFix R K O tb sb cnt sc (⟨b18_, (Value.iface it ix), (Value.iface jt jx), (Value.iface vt vx), (Value.iface jt jx), 1, kb, ke, ke⟩ : ND K) (Tr.lf : Tr K) (Tr.lf : Tr K) (upC O (some ((Value.iface jt jx), ke)) ((⟨true, f36_p, f36_o⟩ : Fr K) :: f36_C)) (inl ((⟨true, f36_p, f36_o⟩ : Fr K) :: f36_C) ++ (⟨b18_, (Value.iface it ix), (Value.iface jt jx), (Value.iface vt vx), (Value.iface jt jx), 1, kb, ke, ke⟩ : ND K).er :: inr ((⟨true, f36_p, f36_o⟩ : Fr K) :: f36_C)) (hFx_)) H307_ ?_)
      rintro v304_ p311_ w308_ ⟨W305_, rfl, rfl, he306_⟩ S310_ H309_
      have S312_ := Same.trans S292_ S310_
      refine wpList_nil (X_then (hK293_ _ _ ?_))
      clear hK293_
      refine C_reg ?_
      refine sv (v := (vQ tb)) (x_move rfl) ?_
      refine sv (v := (vQ tb)) (by kernel_rfl) ?_
      refine sv (v := (vP (some ⟨tb, 1, none⟩))) (by kernel_rfl) ?_
      refine sv (v := (vI .i64 cnt)) (x_load1 rfl Try.underlying3 rfl ((Holds.rd H309_ 1 rfl) 1 (vI .i64 cnt) rfl)) ?_
      refine sv (v := (vI .i64 (cnt + 1))) (x_bin rfl rfl (ib_add (IntWalk.i64_in _ (by omega)))) ?_
      refine sv (v := (vQ tb)) (by kernel_rfl) ?_
      refine sv (v := (vP (some ⟨tb, 1, none⟩))) (by kernel_rfl) ?_
      refine S_list0 (T_store1 (v := (vI .i64 (cnt + 1))) rfl rfl z3 rfl H309_ 1 rfl (Nat.le_of_ble_eq_true (by rfl)) ?_)
      intro w313_ S315_ H314_
      have S316_ := Same.trans S312_ S315_
      refine wpList_nil ?_
      refine R_0 rfl ?_
      have H317_ : Holds w313_ (ro R :: cl tb 188 [(vQ (rt sb W305_)), (vI .i64 (cnt + 1)), (vQ sb)] :: tr sb sb W305_ :: clf sb 185 sc :: F) := (Holds.pkF H314_ [0, 0, 0, 0] 2 :)
      exact ⟨_, _, rfl, ⟨W305_, (inl ((⟨true, f36_p, f36_o⟩ : Fr K) :: f36_C)), (inr ((⟨true, f36_p, f36_o⟩ : Fr K) :: f36_C)), (⟨b18_, (Value.iface it ix), (Value.iface jt jx), (Value.iface vt vx), (Value.iface jt jx), 1, kb, ke, ke⟩ : ND K), rfl, rfl, (⟨he306_.1, he306_.2.1, he306_.2.2.2⟩), (he306_.2.2.1), (by rw [ino_plug]; simp [ino]), (⟨rfl, rfl, rfl, rfl, rfl⟩), (by rw [he306_.2.2.1]; exact ins_srt hway (by have := hs; rw [ino_plug] at this; simpa [ino] using this))⟩, S316_, H317_⟩
     ·have c273_fp : ¬ (O.cm ke f36_p.ke < 0) := of_decide_eq_false c273_f
      omega
    ·have c264_fp : ¬ (O.cm kb f36_p.kb = 0) := of_decide_eq_false c264_f
     omega
 ·skip
  have H318_ : Holds w28_ (cx sb f33_n.a C1 :: clf b18_ 185 [((Value.iface it ix)), ((Value.iface jt jx)), ((Value.iface vt vx)), ((Value.iface jt jx)), (vQ sb), (vQ sb), (vQ sb), (vI .i64 1)] :: cl b10_ 111 [((Value.iface it ix)), ((Value.iface jt jx))] :: cl b2_ 111 [((Value.iface it ix)), ((Value.iface jt jx))] :: ro R :: cl tb 188 [(vQ (rt sb W)), (vI .i64 cnt), (vQ sb)] :: tr sb (pa sb C1) (Tr.nd f33_n f33_a f33_b) :: clf sb 185 sc :: F) := (H29_)
  have H319_ := ((Holds.bring H318_ 6 rfl) :)
  have H320_ := Holds.tr_nd H319_
  have hk_ := hTk.1
  refine sv (v := (vQ f33_n.a)) (x_move rfl) ?_
  refine sv (v := (vQ tb)) (x_move rfl) ?_
  refine sv (v := (vQ tb)) (by kernel_rfl) ?_
  refine sv (v := (vP (some ⟨tb, 2, none⟩))) (by kernel_rfl) ?_
  refine sv (v := (vQ sb)) (x_load1 rfl Try.underlying182 rfl ((Holds.rd H320_ 8 rfl) 2 (vQ sb) rfl)) ?_
  have hpc321_ : f33_n.a ≠ sb := Holds.ne_f H320_ 0 rfl 9 rfl (by decide)
  refine sv (v := (vB true)) (x_cast (x_nePN rfl rfl Try.underlying182 z185 (by decide) (Holds.blk H320_ 0 rfl) (Holds.blk H320_ 9 rfl)) (congrArg vB (decide_eq_true hpc321_))) ?_
  refine wpList_nil (X_then (hK32_ _ _ ?_))
  clear hK32_
  refine C_condT rfl ?_
  refine C_skip (X_then (hK31_ _ _ ?_))
  clear hK31_
  refine C_block ?_
  refine C_seq (fun K322_ hK322_ => C_reg ?_)
  refine sv (v := (vQ f33_n.a)) (x_move rfl) ?_
  refine sv (v := (vQ f33_n.a)) (x_assign rfl) ?_
  refine wpList_nil (X_then (hK322_ _ _ ?_))
  clear hK322_
  refine C_seq (fun K323_ hK323_ => ?_)
  refine A_start (S := fun w => (Rd f33_n.a [f33_n.b, f33_n.e, f33_n.v, f33_n.mx, (vQ (rt sb f33_a)), (vQ (rt sb f33_b)), (vQ (pa sb C1)), (vI .i64 f33_n.c)] w ∧ Blk w f33_n.a) ∧ RtRd w (rt sb f33_a) (rmx f33_a) ∧ RtRd w (rt sb f33_b) (rmx f33_b) ∧ (Rd b18_ [((Value.iface it ix)), ((Value.iface jt jx)), ((Value.iface vt vx)), ((Value.iface jt jx)), (vQ sb), (vQ sb), (vQ sb), (vI .i64 1)] w ∧ Blk w b18_) ∧ Sub R (hp w)) (N := 16) foll rfl rfl ?_
  have H324_ := Holds.drew_ H320_
  have hq325_ := And.intro ((And.intro (Holds.rdf H324_ 0 rfl) (Holds.blk H324_ 0 rfl))) (And.intro (Holds.tr_rd H324_ 1 rfl 9 rfl) (And.intro (Holds.tr_rd H324_ 2 rfl 9 rfl) (And.intro ((And.intro (Holds.rdf H324_ 4 rfl) (Holds.blk H324_ 4 rfl))) ((Holds.ro_at H324_ 7 rfl)))))
  refine A_tk 0 (v := (vQ b18_)) rfl (by kernel_rfl) (fun w hS => x_move rfl) hq325_ ?_
  refine A_tk 1 (v := (vQ b18_)) rfl (by kernel_rfl) (fun w hS => by kernel_rfl) hq325_ ?_
  refine A_tk 2 (v := (vQ b18_)) rfl (by kernel_rfl) (fun w hS => by kernel_rfl) hq325_ ?_
  refine A_tk 3 (v := (vQ b18_)) rfl (by kernel_rfl) (fun w hS => by kernel_rfl) hq325_ ?_
  refine A_tk 4 (v := (vQ b18_)) rfl (by kernel_rfl) (fun w hS => by kernel_rfl) hq325_ ?_
  refine A_tk 5 (v := ((Value.iface it ix))) rfl (by kernel_rfl) (fun w hS => x_load1 rfl Try.underlying109 rfl (hS.2.2.2.1.1 0 ((Value.iface it ix)) rfl)) hq325_ ?_
  refine A_tk 6 (v := (vQ f33_n.a)) rfl (by kernel_rfl) (fun w hS => x_move rfl) hq325_ ?_
  refine A_tk 7 (v := (vQ f33_n.a)) rfl (by kernel_rfl) (fun w hS => by kernel_rfl) hq325_ ?_
  refine A_tk 8 (v := (vQ f33_n.a)) rfl (by kernel_rfl) (fun w hS => by kernel_rfl) hq325_ ?_
  refine A_tk 9 (v := (vQ f33_n.a)) rfl (by kernel_rfl) (fun w hS => by kernel_rfl) hq325_ ?_
  refine A_tk 10 (v := (vQ f33_n.a)) rfl (by kernel_rfl) (fun w hS => by kernel_rfl) hq325_ ?_
  refine A_tk 11 (v := f33_n.b) rfl (by kernel_rfl) (fun w hS => x_load1 rfl Try.underlying109 rfl (hS.1.1 0 f33_n.b rfl)) hq325_ ?_
  refine A_tk 12 (v := ((Value.iface it ix))) rfl (by kernel_rfl) (fun w hS => by kernel_rfl) hq325_ ?_
  refine A_tk 13 (v := ((Value.iface it ix))) rfl (by kernel_rfl) (fun w hS => x_move rfl) hq325_ ?_
  refine A_ready (i := 14) (rs := []) (by kernel_rfl) ?_
  refine AllR.cons ?_ AllR.nil
  refine A_op (ls' := #[true, true, true, true, true, true, true, true, true, true, true, true, true, true, true, false]) rfl (by kernel_rfl) (T_cmp rfl rfl (O.cmp hb (hk_.b)) H324_ 7 rfl ?_)
  intro w326_ S328_ H327_
  have S329_ := Same.trans (Same.trans S30_ (Same.drew _)) S328_
  refine ⟨⟨(And.intro (Holds.rdf H327_ 0 rfl) (Holds.blk H327_ 0 rfl)), Holds.tr_rd H327_ 1 rfl 9 rfl, Holds.tr_rd H327_ 2 rfl 9 rfl, (And.intro (Holds.rdf H327_ 4 rfl) (Holds.blk H327_ 4 rfl)), (Holds.ro_at H327_ 7 rfl)⟩, ?_⟩
  have hq330_ := And.intro ((And.intro (Holds.rdf H327_ 0 rfl) (Holds.blk H327_ 0 rfl))) (And.intro (Holds.tr_rd H327_ 1 rfl 9 rfl) (And.intro (Holds.tr_rd H327_ 2 rfl 9 rfl) (And.intro ((And.intro (Holds.rdf H327_ 4 rfl) (Holds.blk H327_ 4 rfl))) ((Holds.ro_at H327_ 7 rfl)))))
  refine A_tk 15 (v := (vI .i64 (O.cm kb f33_n.kb))) rfl (by kernel_rfl) (fun w hS => x_assign rfl) hq330_ ?_
  refine A_done (by kernel_rfl) ?_
  refine (X_then (hK323_ _ _ ?_))
  clear hK323_
  refine C_seq (fun K331_ hK331_ => C_reg ?_)
  refine sv (v := (vI .i64 (O.cm kb f33_n.kb))) (x_move rfl) ?_
  refine sv (v := (vB (decide (O.cm kb f33_n.kb < 0)))) (x_bin rfl rfl rfl) ?_
  refine wpList_nil (X_then (hK331_ _ _ ?_))
  clear hK331_
  refine C_cond (b := decide (O.cm kb f33_n.kb < 0)) rfl (fun c332_t => ?_) (fun c332_f => ?_)
  ·have c332_tp : O.cm kb f33_n.kb < 0 := of_decide_eq_true c332_t
   refine C_reg ?_
   refine sv (v := (vQ f33_n.a)) (x_move rfl) ?_
   refine sv (v := (vQ f33_n.a)) (by kernel_rfl) ?_
   refine sv (v := (vP (some ⟨f33_n.a, 4, none⟩))) (by kernel_rfl) ?_
   refine sv (v := (vQ (rt sb f33_a))) (x_load1 rfl Try.underlying182 rfl ((Holds.rdf H327_ 0 rfl) 4 (vQ (rt sb f33_a)) rfl)) ?_
   refine sv (v := (vQ (rt sb f33_a))) (x_assign rfl) ?_
   refine wpList_nil (X_blkN (X_then ?_))
   have H333_ := ((Holds.bring (Holds.bring (Holds.bring H327_ 3 rfl) 3 rfl) 2 rfl) :)
   have H334_ := Holds.cons_cx (sb := sb) (f := (⟨true, f33_n, f33_b⟩ : Fr K)) (C := C1) (x := (rt sb f33_a)) H333_
   have H335_ : Holds w326_ (cx sb (rt sb f33_a) ((⟨true, f33_n, f33_b⟩ : Fr K) :: C1) :: tr sb (pa sb ((⟨true, f33_n, f33_b⟩ : Fr K) :: C1)) f33_a :: clf b18_ 185 [((Value.iface it ix)), ((Value.iface jt jx)), ((Value.iface vt vx)), ((Value.iface jt jx)), (vQ sb), (vQ sb), (vQ sb), (vI .i64 1)] :: cl b10_ 111 [((Value.iface it ix)), ((Value.iface jt jx))] :: cl b2_ 111 [((Value.iface it ix)), ((Value.iface jt jx))] :: ro R :: cl tb 188 [(vQ (rt sb W)), (vI .i64 cnt), (vQ sb)] :: clf sb 185 sc :: F) := (H334_)
   have H336_ : Holds w326_ (cx sb (rt sb f33_a) ((⟨true, f33_n, f33_b⟩ : Fr K) :: C1) :: clf b18_ 185 [((Value.iface it ix)), ((Value.iface jt jx)), ((Value.iface vt vx)), ((Value.iface jt jx)), (vQ sb), (vQ sb), (vQ sb), (vI .i64 1)] :: cl b10_ 111 [((Value.iface it ix)), ((Value.iface jt jx))] :: cl b2_ 111 [((Value.iface it ix)), ((Value.iface jt jx))] :: ro R :: cl tb 188 [(vQ (rt sb W)), (vI .i64 cnt), (vQ sb)] :: tr sb (pa sb ((⟨true, f33_n, f33_b⟩ : Fr K) :: C1)) f33_a :: clf sb 185 sc :: F) := (Holds.pkF H335_ [0, 1, 1, 1, 1, 1, 0, 0] 0 :)
   exact ⟨⟨((⟨true, f33_n, f33_b⟩ : Fr K) :: C1), f33_a⟩, ⟨_, congrArg (fun e => mkA 165 e []) (ch (ch (ch (ch rfl rfl) ((by first | rfl | omega | (simp; done) | (simp; omega)) : (vQ f33_n.a) = (vP (some ⟨(pa sb ((⟨true, f33_n, f33_b⟩ : Fr K) :: C1)), 0, none⟩)))) rfl) rfl), H336_, S329_, (hpl), (⟨by unfold bef; first | omega | (simp; omega), hway⟩), (hTk.2.1), (COk.cons (f := (⟨true, f33_n, f33_b⟩ : Fr K)) hTk.1 hTk.2.2 hCk)⟩, (by first | (simp [ino]; done) | (simp [ino]; omega))⟩
  ·have c332_fp : ¬ (O.cm kb f33_n.kb < 0) := of_decide_eq_false c332_f
   refine C_seq (fun K337_ hK337_ => C_reg ?_)
   refine sv (v := (vI .i64 (O.cm kb f33_n.kb))) (x_move rfl) ?_
   refine sv (v := (vB (decide (O.cm kb f33_n.kb = 0)))) (x_bin rfl rfl rfl) ?_
   refine wpList_nil (X_then (hK337_ _ _ ?_))
   clear hK337_
   refine C_cond (b := decide (O.cm kb f33_n.kb = 0)) rfl (fun c338_t => ?_) (fun c338_f => ?_)
   ·have c338_tp : O.cm kb f33_n.kb = 0 := of_decide_eq_true c338_t
    refine C_seq (fun K339_ hK339_ => ?_)
    refine A_start (S := fun w => (Rd f33_n.a [f33_n.b, f33_n.e, f33_n.v, f33_n.mx, (vQ (rt sb f33_a)), (vQ (rt sb f33_b)), (vQ (pa sb C1)), (vI .i64 f33_n.c)] w ∧ Blk w f33_n.a) ∧ RtRd w (rt sb f33_a) (rmx f33_a) ∧ RtRd w (rt sb f33_b) (rmx f33_b) ∧ (Rd b18_ [((Value.iface it ix)), ((Value.iface jt jx)), ((Value.iface vt vx)), ((Value.iface jt jx)), (vQ sb), (vQ sb), (vQ sb), (vI .i64 1)] w ∧ Blk w b18_) ∧ Sub R (hp w)) (N := 16) foll rfl rfl ?_
    have H340_ := Holds.drew_ H327_
    have hq341_ := And.intro ((And.intro (Holds.rdf H340_ 0 rfl) (Holds.blk H340_ 0 rfl))) (And.intro (Holds.tr_rd H340_ 1 rfl 9 rfl) (And.intro (Holds.tr_rd H340_ 2 rfl 9 rfl) (And.intro ((And.intro (Holds.rdf H340_ 4 rfl) (Holds.blk H340_ 4 rfl))) ((Holds.ro_at H340_ 7 rfl)))))
    refine A_tk 0 (v := (vQ b18_)) rfl (by kernel_rfl) (fun w hS => x_move rfl) hq341_ ?_
    refine A_tk 1 (v := (vQ b18_)) rfl (by kernel_rfl) (fun w hS => by kernel_rfl) hq341_ ?_
    refine A_tk 2 (v := (vQ b18_)) rfl (by kernel_rfl) (fun w hS => by kernel_rfl) hq341_ ?_
    refine A_tk 3 (v := (vQ b18_)) rfl (by kernel_rfl) (fun w hS => by kernel_rfl) hq341_ ?_
    refine A_tk 4 (v := (vP (some ⟨b18_, 1, none⟩))) rfl (by kernel_rfl) (fun w hS => by kernel_rfl) hq341_ ?_
    refine A_tk 5 (v := ((Value.iface jt jx))) rfl (by kernel_rfl) (fun w hS => x_load1 rfl Try.underlying109 rfl (hS.2.2.2.1.1 1 ((Value.iface jt jx)) rfl)) hq341_ ?_
    refine A_tk 6 (v := (vQ f33_n.a)) rfl (by kernel_rfl) (fun w hS => x_move rfl) hq341_ ?_
    refine A_tk 7 (v := (vQ f33_n.a)) rfl (by kernel_rfl) (fun w hS => by kernel_rfl) hq341_ ?_
    refine A_tk 8 (v := (vQ f33_n.a)) rfl (by kernel_rfl) (fun w hS => by kernel_rfl) hq341_ ?_
    refine A_tk 9 (v := (vQ f33_n.a)) rfl (by kernel_rfl) (fun w hS => by kernel_rfl) hq341_ ?_
    refine A_tk 10 (v := (vP (some ⟨f33_n.a, 1, none⟩))) rfl (by kernel_rfl) (fun w hS => by kernel_rfl) hq341_ ?_
    refine A_tk 11 (v := f33_n.e) rfl (by kernel_rfl) (fun w hS => x_load1 rfl Try.underlying109 rfl (hS.1.1 1 f33_n.e rfl)) hq341_ ?_
    refine A_tk 12 (v := ((Value.iface jt jx))) rfl (by kernel_rfl) (fun w hS => by kernel_rfl) hq341_ ?_
    refine A_tk 13 (v := ((Value.iface jt jx))) rfl (by kernel_rfl) (fun w hS => x_move rfl) hq341_ ?_
    refine A_ready (i := 14) (rs := []) (by kernel_rfl) ?_
    refine AllR.cons ?_ AllR.nil
    refine A_op (ls' := #[true, true, true, true, true, true, true, true, true, true, true, true, true, true, true, false]) rfl (by kernel_rfl) (T_cmp rfl rfl (O.cmp he (hk_.e)) H340_ 7 rfl ?_)
    intro w342_ S344_ H343_
    have S345_ := Same.trans (Same.trans S329_ (Same.drew _)) S344_
    refine ⟨⟨(And.intro (Holds.rdf H343_ 0 rfl) (Holds.blk H343_ 0 rfl)), Holds.tr_rd H343_ 1 rfl 9 rfl, Holds.tr_rd H343_ 2 rfl 9 rfl, (And.intro (Holds.rdf H343_ 4 rfl) (Holds.blk H343_ 4 rfl)), (Holds.ro_at H343_ 7 rfl)⟩, ?_⟩
    have hq346_ := And.intro ((And.intro (Holds.rdf H343_ 0 rfl) (Holds.blk H343_ 0 rfl))) (And.intro (Holds.tr_rd H343_ 1 rfl 9 rfl) (And.intro (Holds.tr_rd H343_ 2 rfl 9 rfl) (And.intro ((And.intro (Holds.rdf H343_ 4 rfl) (Holds.blk H343_ 4 rfl))) ((Holds.ro_at H343_ 7 rfl)))))
    refine A_tk 15 (v := (vB (decide (O.cm ke f33_n.ke < 0)))) rfl (by kernel_rfl) (fun w hS => x_bin rfl rfl rfl) hq346_ ?_
    refine A_done (by kernel_rfl) ?_
    refine (X_then (hK339_ _ _ ?_))
    clear hK339_
    refine C_cond (b := decide (O.cm ke f33_n.ke < 0)) rfl (fun c347_t => ?_) (fun c347_f => ?_)
    ·have c347_tp : O.cm ke f33_n.ke < 0 := of_decide_eq_true c347_t
     refine C_reg ?_
     refine sv (v := (vQ f33_n.a)) (x_move rfl) ?_
     refine sv (v := (vQ f33_n.a)) (by kernel_rfl) ?_
     refine sv (v := (vP (some ⟨f33_n.a, 4, none⟩))) (by kernel_rfl) ?_
     refine sv (v := (vQ (rt sb f33_a))) (x_load1 rfl Try.underlying182 rfl ((Holds.rdf H343_ 0 rfl) 4 (vQ (rt sb f33_a)) rfl)) ?_
     refine sv (v := (vQ (rt sb f33_a))) (x_assign rfl) ?_
     refine wpList_nil (X_blkN (X_then ?_))
     have H348_ := ((Holds.bring (Holds.bring (Holds.bring H343_ 3 rfl) 3 rfl) 2 rfl) :)
     have H349_ := Holds.cons_cx (sb := sb) (f := (⟨true, f33_n, f33_b⟩ : Fr K)) (C := C1) (x := (rt sb f33_a)) H348_
     have H350_ : Holds w342_ (cx sb (rt sb f33_a) ((⟨true, f33_n, f33_b⟩ : Fr K) :: C1) :: tr sb (pa sb ((⟨true, f33_n, f33_b⟩ : Fr K) :: C1)) f33_a :: clf b18_ 185 [((Value.iface it ix)), ((Value.iface jt jx)), ((Value.iface vt vx)), ((Value.iface jt jx)), (vQ sb), (vQ sb), (vQ sb), (vI .i64 1)] :: cl b10_ 111 [((Value.iface it ix)), ((Value.iface jt jx))] :: cl b2_ 111 [((Value.iface it ix)), ((Value.iface jt jx))] :: ro R :: cl tb 188 [(vQ (rt sb W)), (vI .i64 cnt), (vQ sb)] :: clf sb 185 sc :: F) := (H349_)
     have H351_ : Holds w342_ (cx sb (rt sb f33_a) ((⟨true, f33_n, f33_b⟩ : Fr K) :: C1) :: clf b18_ 185 [((Value.iface it ix)), ((Value.iface jt jx)), ((Value.iface vt vx)), ((Value.iface jt jx)), (vQ sb), (vQ sb), (vQ sb), (vI .i64 1)] :: cl b10_ 111 [((Value.iface it ix)), ((Value.iface jt jx))] :: cl b2_ 111 [((Value.iface it ix)), ((Value.iface jt jx))] :: ro R :: cl tb 188 [(vQ (rt sb W)), (vI .i64 cnt), (vQ sb)] :: tr sb (pa sb ((⟨true, f33_n, f33_b⟩ : Fr K) :: C1)) f33_a :: clf sb 185 sc :: F) := (Holds.pkF H350_ [0, 1, 1, 1, 1, 1, 0, 0] 0 :)
     exact ⟨⟨((⟨true, f33_n, f33_b⟩ : Fr K) :: C1), f33_a⟩, ⟨_, congrArg (fun e => mkA 165 e []) (ch (ch (ch (ch rfl rfl) ((by first | rfl | omega | (simp; done) | (simp; omega)) : (vQ f33_n.a) = (vP (some ⟨(pa sb ((⟨true, f33_n, f33_b⟩ : Fr K) :: C1)), 0, none⟩)))) rfl) rfl), H351_, S345_, (hpl), (⟨by unfold bef; first | omega | (simp; omega), hway⟩), (hTk.2.1), (COk.cons (f := (⟨true, f33_n, f33_b⟩ : Fr K)) hTk.1 hTk.2.2 hCk)⟩, (by first | (simp [ino]; done) | (simp [ino]; omega))⟩
    ·have c347_fp : ¬ (O.cm ke f33_n.ke < 0) := of_decide_eq_false c347_f
     refine C_reg ?_
     refine sv (v := (vQ f33_n.a)) (x_move rfl) ?_
     refine sv (v := (vQ f33_n.a)) (by kernel_rfl) ?_
     refine sv (v := (vP (some ⟨f33_n.a, 5, none⟩))) (by kernel_rfl) ?_
     refine sv (v := (vQ (rt sb f33_b))) (x_load1 rfl Try.underlying182 rfl ((Holds.rdf H343_ 0 rfl) 5 (vQ (rt sb f33_b)) rfl)) ?_
     refine sv (v := (vQ (rt sb f33_b))) (x_assign rfl) ?_
     refine wpList_nil (X_blkN (X_then ?_))
     have H352_ := ((Holds.bring (Holds.bring (Holds.bring H343_ 3 rfl) 2 rfl) 2 rfl) :)
     have H353_ := Holds.cons_cx (sb := sb) (f := (⟨false, f33_n, f33_a⟩ : Fr K)) (C := C1) (x := (rt sb f33_b)) H352_
     have H354_ : Holds w342_ (cx sb (rt sb f33_b) ((⟨false, f33_n, f33_a⟩ : Fr K) :: C1) :: tr sb (pa sb ((⟨false, f33_n, f33_a⟩ : Fr K) :: C1)) f33_b :: clf b18_ 185 [((Value.iface it ix)), ((Value.iface jt jx)), ((Value.iface vt vx)), ((Value.iface jt jx)), (vQ sb), (vQ sb), (vQ sb), (vI .i64 1)] :: cl b10_ 111 [((Value.iface it ix)), ((Value.iface jt jx))] :: cl b2_ 111 [((Value.iface it ix)), ((Value.iface jt jx))] :: ro R :: cl tb 188 [(vQ (rt sb W)), (vI .i64 cnt), (vQ sb)] :: clf sb 185 sc :: F) := (H353_)
     have H355_ : Holds w342_ (cx sb (rt sb f33_b) ((⟨false, f33_n, f33_a⟩ : Fr K) :: C1) :: clf b18_ 185 [((Value.iface it ix)), ((Value.iface jt jx)), ((Value.iface vt vx)), ((Value.iface jt jx)), (vQ sb), (vQ sb), (vQ sb), (vI .i64 1)] :: cl b10_ 111 [((Value.iface it ix)), ((Value.iface jt jx))] :: cl b2_ 111 [((Value.iface it ix)), ((Value.iface jt jx))] :: ro R :: cl tb 188 [(vQ (rt sb W)), (vI .i64 cnt), (vQ sb)] :: tr sb (pa sb ((⟨false, f33_n, f33_a⟩ : Fr K) :: C1)) f33_b :: clf sb 185 sc :: F) := (Holds.pkF H354_ [0, 1, 1, 1, 1, 1, 0, 0] 0 :)
     exact ⟨⟨((⟨false, f33_n, f33_a⟩ : Fr K) :: C1), f33_b⟩, ⟨_, congrArg (fun e => mkA 165 e []) (ch (ch (ch (ch rfl rfl) ((by first | rfl | omega | (simp; done) | (simp; omega)) : (vQ f33_n.a) = (vP (some ⟨(pa sb ((⟨false, f33_n, f33_a⟩ : Fr K) :: C1)), 0, none⟩)))) rfl) rfl), H355_, S345_, (hpl), (⟨by unfold bef; first | omega | (simp; omega), hway⟩), (hTk.2.2), (COk.cons (f := (⟨false, f33_n, f33_a⟩ : Fr K)) hTk.1 hTk.2.1 hCk)⟩, (by first | (simp [ino]; done) | (simp [ino]; omega))⟩
   ·have c338_fp : ¬ (O.cm kb f33_n.kb = 0) := of_decide_eq_false c338_f
    refine C_reg ?_
    refine sv (v := (vQ f33_n.a)) (x_move rfl) ?_
    refine sv (v := (vQ f33_n.a)) (by kernel_rfl) ?_
    refine sv (v := (vP (some ⟨f33_n.a, 5, none⟩))) (by kernel_rfl) ?_
    refine sv (v := (vQ (rt sb f33_b))) (x_load1 rfl Try.underlying182 rfl ((Holds.rdf H327_ 0 rfl) 5 (vQ (rt sb f33_b)) rfl)) ?_
    refine sv (v := (vQ (rt sb f33_b))) (x_assign rfl) ?_
    refine wpList_nil (X_blkN (X_then ?_))
    have H356_ := ((Holds.bring (Holds.bring (Holds.bring H327_ 3 rfl) 2 rfl) 2 rfl) :)
    have H357_ := Holds.cons_cx (sb := sb) (f := (⟨false, f33_n, f33_a⟩ : Fr K)) (C := C1) (x := (rt sb f33_b)) H356_
    have H358_ : Holds w326_ (cx sb (rt sb f33_b) ((⟨false, f33_n, f33_a⟩ : Fr K) :: C1) :: tr sb (pa sb ((⟨false, f33_n, f33_a⟩ : Fr K) :: C1)) f33_b :: clf b18_ 185 [((Value.iface it ix)), ((Value.iface jt jx)), ((Value.iface vt vx)), ((Value.iface jt jx)), (vQ sb), (vQ sb), (vQ sb), (vI .i64 1)] :: cl b10_ 111 [((Value.iface it ix)), ((Value.iface jt jx))] :: cl b2_ 111 [((Value.iface it ix)), ((Value.iface jt jx))] :: ro R :: cl tb 188 [(vQ (rt sb W)), (vI .i64 cnt), (vQ sb)] :: clf sb 185 sc :: F) := (H357_)
    have H359_ : Holds w326_ (cx sb (rt sb f33_b) ((⟨false, f33_n, f33_a⟩ : Fr K) :: C1) :: clf b18_ 185 [((Value.iface it ix)), ((Value.iface jt jx)), ((Value.iface vt vx)), ((Value.iface jt jx)), (vQ sb), (vQ sb), (vQ sb), (vI .i64 1)] :: cl b10_ 111 [((Value.iface it ix)), ((Value.iface jt jx))] :: cl b2_ 111 [((Value.iface it ix)), ((Value.iface jt jx))] :: ro R :: cl tb 188 [(vQ (rt sb W)), (vI .i64 cnt), (vQ sb)] :: tr sb (pa sb ((⟨false, f33_n, f33_a⟩ : Fr K) :: C1)) f33_b :: clf sb 185 sc :: F) := (Holds.pkF H358_ [0, 1, 1, 1, 1, 1, 0, 0] 0 :)
    exact ⟨⟨((⟨false, f33_n, f33_a⟩ : Fr K) :: C1), f33_b⟩, ⟨_, congrArg (fun e => mkA 165 e []) (ch (ch (ch (ch rfl rfl) ((by first | rfl | omega | (simp; done) | (simp; omega)) : (vQ f33_n.a) = (vP (some ⟨(pa sb ((⟨false, f33_n, f33_a⟩ : Fr K) :: C1)), 0, none⟩)))) rfl) rfl), H359_, S329_, (hpl), (⟨by unfold bef; first | omega | (simp; omega), hway⟩), (hTk.2.2), (COk.cons (f := (⟨false, f33_n, f33_a⟩ : Fr K)) hTk.1 hTk.2.1 hCk)⟩, (by first | (simp [ino]; done) | (simp [ino]; omega))⟩
end Go.Proofs.Ytlnihndjepjagaa
set_option linter.unusedVariables false
set_option linter.unusedSimpArgs false
namespace Go.Proofs.Ytlnihndjepjagaa
open Go Go.RowKit Gw
open Go.Value renaming int → vI, bool → vB, slice → vS, pointer → vP, agg → vA, tuple → vT

section
variable {K : Type} (O : KO K)
/-- How [b, e) stands to [nb, ne): ahead of it, behind it, or they overlap. -/
def icmp (b e nb ne : K) : Int := if O.cm b nb < 0 ∧ O.cm e nb ≤ 0 then -1 else if 0 ≤ O.cm b ne then 1 else 0
end


set_option maxHeartbeats 1600000 in
theorem itCmp (R : HP) (K : Type) (O : KO K) (ib : Nat) (n : ND K) (l r p : Nat) (it jt : TypeId) (ix jx : Value) (kb ke : K) (hb : O.Val R (Value.iface it ix) kb) (he : O.Val R (Value.iface jt jx) ke) (hn : NOk O R n) :
    Tri Try.prog 163 #[(vQ ib), (Value.iface 290 (vQ n.a))] R [cl ib 111 [((Value.iface it ix)), ((Value.iface jt jx))], clf n.a 185 [n.b, n.e, n.v, n.mx, (vQ l), (vQ r), (vQ p), (vI .i64 n.c)]] (fun v__ post__ => v__ = (vI .i64 (icmp O kb ke n.kb n.ke)) ∧ post__ = [cl ib 111 [((Value.iface it ix)), ((Value.iface jt jx))], clf n.a 185 [n.b, n.e, n.v, n.mx, (vQ l), (vQ r), (vQ p), (vI .i64 n.c)]]) := by
 refine Tri.into (n := 52) (al := [(vQ ib), (Value.iface 290 (vQ n.a))]) Try.func163 rfl Try.ntmps163 rfl rfl fun w F H => ?_
 refine C_seq (fun K1_ hK1_ => C_reg ?_)
 refine sv (v := (vI .i64 0)) (x_assign rfl) ?_
 refine wpList_nil (X_then (hK1_ _ _ ?_))
 clear hK1_
 refine C_seq (fun K2_ hK2_ => C_reg ?_)
 refine sv (v := (Value.iface 290 (vQ n.a))) (x_move rfl) ?_
 refine sv (v := (vQ n.a)) (by kernel_rfl) ?_
 refine sv (v := (vQ n.a)) (x_assign rfl) ?_
 refine wpList_nil (X_then (hK2_ _ _ ?_))
 clear hK2_
 refine C_seq (fun K3_ hK3_ => ?_)
 refine A_start (S := fun w => Rd ib [((Value.iface it ix)), ((Value.iface jt jx))] w ∧ (Rd n.a [n.b, n.e, n.v, n.mx, (vQ l), (vQ r), (vQ p), (vI .i64 n.c)] w ∧ Blk w n.a) ∧ Sub R (hp w)) (N := 12) foll rfl rfl ?_
 have H4_ := Holds.drew_ H
 have hq5_ := And.intro (Holds.rd H4_ 1 rfl) (And.intro ((And.intro (Holds.rdf H4_ 2 rfl) (Holds.blk H4_ 2 rfl))) ((Holds.ro_at H4_ 0 rfl)))
 refine A_tk 0 (v := (vQ ib)) rfl (by kernel_rfl) (fun w hS => x_move rfl) hq5_ ?_
 refine A_tk 1 (v := (vQ ib)) rfl (by kernel_rfl) (fun w hS => by kernel_rfl) hq5_ ?_
 refine A_tk 2 (v := (vQ ib)) rfl (by kernel_rfl) (fun w hS => by kernel_rfl) hq5_ ?_
 refine A_tk 3 (v := ((Value.iface it ix))) rfl (by kernel_rfl) (fun w hS => x_load1 rfl Try.underlying109 rfl (hS.1 0 ((Value.iface it ix)) rfl)) hq5_ ?_
 refine A_tk 4 (v := (vQ n.a)) rfl (by kernel_rfl) (fun w hS => x_move rfl) hq5_ ?_
 refine A_tk 5 (v := (vQ n.a)) rfl (by kernel_rfl) (fun w hS => by kernel_rfl) hq5_ ?_
 refine A_tk 6 (v := (vQ n.a)) rfl (by kernel_rfl) (fun w hS => by kernel_rfl) hq5_ ?_
 refine A_tk 7 (v := n.b) rfl (by kernel_rfl) (fun w hS => x_load1 rfl Try.underlying109 rfl (hS.2.1.1 0 n.b rfl)) hq5_ ?_
 refine A_tk 8 (v := ((Value.iface it ix))) rfl (by kernel_rfl) (fun w hS => by kernel_rfl) hq5_ ?_
 refine A_tk 9 (v := ((Value.iface it ix))) rfl (by kernel_rfl) (fun w hS => x_move rfl) hq5_ ?_
 refine A_ready (i := 10) (rs := []) (by kernel_rfl) ?_
 refine AllR.cons ?_ AllR.nil
 refine A_op (ls' := #[true, true, true, true, true, true, true, true, true, true, true, false]) rfl (by kernel_rfl) (T_cmp rfl rfl (O.cmp hb hn.b) H4_ 0 rfl ?_)
 intro w6_ S8_ H7_
 have S9_ := Same.trans (Same.trans (Same.refl w) (Same.drew _)) S8_
 refine ⟨⟨Holds.rd H7_ 1 rfl, (And.intro (Holds.rdf H7_ 2 rfl) (Holds.blk H7_ 2 rfl)), (Holds.ro_at H7_ 0 rfl)⟩, ?_⟩
 have hq10_ := And.intro (Holds.rd H7_ 1 rfl) (And.intro ((And.intro (Holds.rdf H7_ 2 rfl) (Holds.blk H7_ 2 rfl))) ((Holds.ro_at H7_ 0 rfl)))
 refine A_tk 11 (v := (vI .i64 (O.cm kb n.kb))) rfl (by kernel_rfl) (fun w hS => x_assign rfl) hq10_ ?_
 refine A_done (by kernel_rfl) ?_
 refine (X_then (hK3_ _ _ ?_))
 clear hK3_
 refine C_seq (fun K11_ hK11_ => ?_)
 refine A_start (S := fun w => Rd ib [((Value.iface it ix)), ((Value.iface jt jx))] w ∧ (Rd n.a [n.b, n.e, n.v, n.mx, (vQ l), (vQ r), (vQ p), (vI .i64 n.c)] w ∧ Blk w n.a) ∧ Sub R (hp w)) (N := 12) foll rfl rfl ?_
 have H12_ := Holds.drew_ H7_
 have hq13_ := And.intro (Holds.rd H12_ 1 rfl) (And.intro ((And.intro (Holds.rdf H12_ 2 rfl) (Holds.blk H12_ 2 rfl))) ((Holds.ro_at H12_ 0 rfl)))
 refine A_tk 0 (v := (vQ ib)) rfl (by kernel_rfl) (fun w hS => x_move rfl) hq13_ ?_
 refine A_tk 1 (v := (vQ ib)) rfl (by kernel_rfl) (fun w hS => by kernel_rfl) hq13_ ?_
 refine A_tk 2 (v := (vQ ib)) rfl (by kernel_rfl) (fun w hS => by kernel_rfl) hq13_ ?_
 refine A_tk 3 (v := ((Value.iface it ix))) rfl (by kernel_rfl) (fun w hS => x_load1 rfl Try.underlying109 rfl (hS.1 0 ((Value.iface it ix)) rfl)) hq13_ ?_
 refine A_tk 4 (v := (vQ n.a)) rfl (by kernel_rfl) (fun w hS => x_move rfl) hq13_ ?_
 refine A_tk 5 (v := (vQ n.a)) rfl (by kernel_rfl) (fun w hS => by kernel_rfl) hq13_ ?_
 refine A_tk 6 (v := (vP (some ⟨n.a, 1, none⟩))) rfl (by kernel_rfl) (fun w hS => by kernel_rfl) hq13_ ?_
 refine A_tk 7 (v := n.e) rfl (by kernel_rfl) (fun w hS => x_load1 rfl Try.underlying109 rfl (hS.2.1.1 1 n.e rfl)) hq13_ ?_
 refine A_tk 8 (v := ((Value.iface it ix))) rfl (by kernel_rfl) (fun w hS => by kernel_rfl) hq13_ ?_
 refine A_tk 9 (v := ((Value.iface it ix))) rfl (by kernel_rfl) (fun w hS => x_move rfl) hq13_ ?_
 refine A_ready (i := 10) (rs := []) (by kernel_rfl) ?_
 refine AllR.cons ?_ AllR.nil
 refine A_op (ls' := #[true, true, true, true, true, true, true, true, true, true, true, false]) rfl (by kernel_rfl) (T_cmp rfl rfl (O.cmp hb hn.e) H12_ 0 rfl ?_)
 intro w14_ S16_ H15_
 have S17_ := Same.trans (Same.trans S9_ (Same.drew _)) S16_
 refine ⟨⟨Holds.rd H15_ 1 rfl, (And.intro (Holds.rdf H15_ 2 rfl) (Holds.blk H15_ 2 rfl)), (Holds.ro_at H15_ 0 rfl)⟩, ?_⟩
 have hq18_ := And.intro (Holds.rd H15_ 1 rfl) (And.intro ((And.intro (Holds.rdf H15_ 2 rfl) (Holds.blk H15_ 2 rfl))) ((Holds.ro_at H15_ 0 rfl)))
 refine A_tk 11 (v := (vI .i64 (O.cm kb n.ke))) rfl (by kernel_rfl) (fun w hS => x_assign rfl) hq18_ ?_
 refine A_done (by kernel_rfl) ?_
 refine (X_then (hK11_ _ _ ?_))
 clear hK11_
 refine C_seq (fun K19_ hK19_ => ?_)
 refine A_start (S := fun w => Rd ib [((Value.iface it ix)), ((Value.iface jt jx))] w ∧ (Rd n.a [n.b, n.e, n.v, n.mx, (vQ l), (vQ r), (vQ p), (vI .i64 n.c)] w ∧ Blk w n.a) ∧ Sub R (hp w)) (N := 12) foll rfl rfl ?_
 have H20_ := Holds.drew_ H15_
 have hq21_ := And.intro (Holds.rd H20_ 1 rfl) (And.intro ((And.intro (Holds.rdf H20_ 2 rfl) (Holds.blk H20_ 2 rfl))) ((Holds.ro_at H20_ 0 rfl)))
 refine A_tk 0 (v := (vQ ib)) rfl (by kernel_rfl) (fun w hS => x_move rfl) hq21_ ?_
 refine A_tk 1 (v := (vQ ib)) rfl (by kernel_rfl) (fun w hS => by kernel_rfl) hq21_ ?_
 refine A_tk 2 (v := (vP (some ⟨ib, 1, none⟩))) rfl (by kernel_rfl) (fun w hS => by kernel_rfl) hq21_ ?_
 refine A_tk 3 (v := ((Value.iface jt jx))) rfl (by kernel_rfl) (fun w hS => x_load1 rfl Try.underlying109 rfl (hS.1 1 ((Value.iface jt jx)) rfl)) hq21_ ?_
 refine A_tk 4 (v := (vQ n.a)) rfl (by kernel_rfl) (fun w hS => x_move rfl) hq21_ ?_
 refine A_tk 5 (v := (vQ n.a)) rfl (by kernel_rfl) (fun w hS => by kernel_rfl) hq21_ ?_
 refine A_tk 6 (v := (vQ n.a)) rfl (by kernel_rfl) (fun w hS => by kernel_rfl) hq21_ ?_
 refine A_tk 7 (v := n.b) rfl (by kernel_rfl) (fun w hS => x_load1 rfl Try.underlying109 rfl (hS.2.1.1 0 n.b rfl)) hq21_ ?_
 refine A_tk 8 (v := ((Value.iface jt jx))) rfl (by kernel_rfl) (fun w hS => by kernel_rfl) hq21_ ?_
 refine A_tk 9 (v := ((Value.iface jt jx))) rfl (by kernel_rfl) (fun w hS => x_move rfl) hq21_ ?_
 refine A_ready (i := 10) (rs := []) (by kernel_rfl) ?_
 refine AllR.cons ?_ AllR.nil
 refine A_op (ls' := #[true, true, true, true, true, true, true, true, true, true, true, false]) rfl (by kernel_rfl) (T_cmp rfl rfl (O.cmp he hn.b) H20_ 0 rfl ?_)
 intro w22_ S24_ H23_
 have S25_ := Same.trans (Same.trans S17_ (Same.drew _)) S24_
 refine ⟨⟨Holds.rd H23_ 1 rfl, (And.intro (Holds.rdf H23_ 2 rfl) (Holds.blk H23_ 2 rfl)), (Holds.ro_at H23_ 0 rfl)⟩, ?_⟩
 have hq26_ := And.intro (Holds.rd H23_ 1 rfl) (And.intro ((And.intro (Holds.rdf H23_ 2 rfl) (Holds.blk H23_ 2 rfl))) ((Holds.ro_at H23_ 0 rfl)))
 refine A_tk 11 (v := (vI .i64 (O.cm ke n.kb))) rfl (by kernel_rfl) (fun w hS => x_assign rfl) hq26_ ?_
 refine A_done (by kernel_rfl) ?_
 refine (X_then (hK19_ _ _ ?_))
 clear hK19_
 refine C_seq (fun K27_ hK27_ => ?_)
 refine C_seq (fun K28_ hK28_ => C_reg ?_)
 refine sv (v := (vI .i64 (O.cm kb n.kb))) (x_move rfl) ?_
 refine sv (v := (vB (decide (O.cm kb n.kb < 0)))) (x_bin rfl rfl rfl) ?_
 refine sv (v := (vB (decide (O.cm kb n.kb < 0)))) (x_move rfl) ?_
 rcases Bool.eq_false_or_eq_true (decide (O.cm kb n.kb < 0)) with c29_t | c29_f
 ·have c29_tp : O.cm kb n.kb < 0 := of_decide_eq_true c29_t
  refine S_yes (j := 2) (dj := 46) (b := true) rfl rfl (congrArg vB c29_t) (T_val (v := (vI .i64 (O.cm ke n.kb))) (x_move rfl) ?_)
  refine S_yes (j := 2) (dj := 46) (b := true) rfl rfl (congrArg vB c29_t) (T_val (v := (vB (decide (O.cm ke n.kb ≤ 0)))) (x_bin rfl rfl rfl) ?_)
  refine S_list (T_pickT (v := (vB (decide (O.cm ke n.kb ≤ 0)))) (congrArg vB c29_t) rfl ?_)
  refine wpList_nil (X_then (hK28_ _ _ ?_))
  clear hK28_
  refine C_cond (b := decide (O.cm ke n.kb ≤ 0)) rfl (fun c30_t => ?_) (fun c30_f => ?_)
  ·have c30_tp : O.cm ke n.kb ≤ 0 := of_decide_eq_true c30_t
   refine C_seq (fun K31_ hK31_ => C_reg ?_)
   refine sv (v := (vI .i64 (-1))) (x_assign rfl) ?_
   refine wpList_nil (X_then (hK31_ _ _ ?_))
   clear hK31_
   refine C_ret (X_thenR ?_)
   refine R_any (v := (vI .i64 (-1))) (run_results1 rfl rfl) ?_
   exact ⟨_, _, rfl, ⟨(congrArg (vI .i64) ((by unfold icmp; first | exact (if_pos (by omega)).symm | (rw [if_neg (by omega)]; first | exact (if_pos (by omega)).symm | exact (if_neg (by omega)).symm)) : -1 = icmp O kb ke n.kb n.ke)), rfl⟩, S25_, H23_⟩
  ·have c30_fp : ¬ (O.cm ke n.kb ≤ 0) := of_decide_eq_false c30_f
   refine C_skip (X_then (hK27_ _ _ ?_))
   clear hK27_
   refine C_seq (fun K32_ hK32_ => ?_)
   refine C_seq (fun K33_ hK33_ => C_reg ?_)
   refine sv (v := (vI .i64 (O.cm kb n.ke))) (x_move rfl) ?_
   refine sv (v := (vB (decide (0 ≤ O.cm kb n.ke)))) (x_bin rfl rfl rfl) ?_
   refine wpList_nil (X_then (hK33_ _ _ ?_))
   clear hK33_
   refine C_cond (b := decide (0 ≤ O.cm kb n.ke)) rfl (fun c34_t => ?_) (fun c34_f => ?_)
   ·have c34_tp : 0 ≤ O.cm kb n.ke := of_decide_eq_true c34_t
    refine C_seq (fun K35_ hK35_ => C_reg ?_)
    refine sv (v := (vI .i64 1)) (x_assign rfl) ?_
    refine wpList_nil (X_then (hK35_ _ _ ?_))
    clear hK35_
    refine C_ret (X_thenR ?_)
    refine R_any (v := (vI .i64 1)) (run_results1 rfl rfl) ?_
    exact ⟨_, _, rfl, ⟨(congrArg (vI .i64) ((by unfold icmp; first | exact (if_pos (by omega)).symm | (rw [if_neg (by omega)]; first | exact (if_pos (by omega)).symm | exact (if_neg (by omega)).symm)) : 1 = icmp O kb ke n.kb n.ke)), rfl⟩, S25_, H23_⟩
   ·have c34_fp : ¬ (0 ≤ O.cm kb n.ke) := of_decide_eq_false c34_f
    refine C_skip (X_then (hK32_ _ _ ?_))
    clear hK32_
    refine C_seq (fun K36_ hK36_ => C_reg ?_)
    refine sv (v := (vI .i64 0)) (x_assign rfl) ?_
    refine wpList_nil (X_then (hK36_ _ _ ?_))
    clear hK36_
    refine C_ret ?_
    refine R_any (v := (vI .i64 0)) (run_results1 rfl rfl) ?_
    exact ⟨_, _, rfl, ⟨(congrArg (vI .i64) ((by unfold icmp; first | exact (if_pos (by omega)).symm | (rw [if_neg (by omega)]; first | exact (if_pos (by omega)).symm | exact (if_neg (by omega)).symm)) : 0 = icmp O kb ke n.kb n.ke)), rfl⟩, S25_, H23_⟩
 ·have c29_fp : ¬ (O.cm kb n.kb < 0) := of_decide_eq_false c29_f
  refine S_no (j := 2) (dj := 46) (b := false) rfl rfl (congrArg vB c29_f) (by decide) ?_
  refine S_no (j := 2) (dj := 46) (b := false) rfl rfl (congrArg vB c29_f) (by decide) ?_
  refine S_list (T_pickF (v := (vB false)) (congrArg vB c29_f) rfl ?_)
  refine wpList_nil (X_then (hK28_ _ _ ?_))
  clear hK28_
  refine C_condF rfl ?_
  refine C_skip (X_then (hK27_ _ _ ?_))
  clear hK27_
  refine C_seq (fun K37_ hK37_ => ?_)
  refine C_seq (fun K38_ hK38_ => C_reg ?_)
  refine sv (v := (vI .i64 (O.cm kb n.ke))) (x_move rfl) ?_
  refine sv (v := (vB (decide (0 ≤ O.cm kb n.ke)))) (x_bin rfl rfl rfl) ?_
  refine wpList_nil (X_then (hK38_ _ _ ?_))
  clear hK38_
  refine C_cond (b := decide (0 ≤ O.cm kb n.ke)) rfl (fun c39_t => ?_) (fun c39_f => ?_)
  ·have c39_tp : 0 ≤ O.cm kb n.ke := of_decide_eq_true c39_t
   refine C_seq (fun K40_ hK40_ => C_reg ?_)
   refine sv (v := (vI .i64 1)) (x_assign rfl) ?_
   refine wpList_nil (X_then (hK40_ _ _ ?_))
   clear hK40_
   refine C_ret (X_thenR ?_)
   refine R_any (v := (vI .i64 1)) (run_results1 rfl rfl) ?_
   exact ⟨_, _, rfl, ⟨(congrArg (vI .i64) ((by unfold icmp; first | exact (if_pos (by omega)).symm | (rw [if_neg (by omega)]; first | exact (if_pos (by omega)).symm | exact (if_neg (by omega)).symm)) : 1 = icmp O kb ke n.kb n.ke)), rfl⟩, S25_, H23_⟩
  ·have c39_fp : ¬ (0 ≤ O.cm kb n.ke) := of_decide_eq_false c39_f
   refine C_skip (X_then (hK37_ _ _ ?_))
   clear hK37_
   refine C_seq (fun K41_ hK41_ => C_reg ?_)
   refine sv (v := (vI .i64 0)) (x_assign rfl) ?_
   refine wpList_nil (X_then (hK41_ _ _ ?_))
   clear hK41_
   refine C_ret ?_
   refine R_any (v := (vI .i64 0)) (run_results1 rfl rfl) ?_
   exact ⟨_, _, rfl, ⟨(congrArg (vI .i64) ((by unfold icmp; first | exact (if_pos (by omega)).symm | (rw [if_neg (by omega)]; first | exact (if_pos (by omega)).symm | exact (if_neg (by omega)).symm)) : 0 = icmp O kb ke n.kb n.ke)), rfl⟩, S25_, H23_⟩
end Go.Proofs.Ytlnihndjepjagaa
set_option linter.unusedVariables false
set_option linter.unusedSimpArgs false
namespace Go.Proofs.Ytlnihndjepjagaa
open Go Go.RowKit Gw
open Go.Value renaming int → vI, bool → vB, slice → vS, pointer → vP, agg → vA, tuple → vT

section
variable {K : Type} (O : KO K)
/-- Does a node of the tree overlap [b, e)? (As the package asks: by the greatest ends.) -/
def isect (b e : K) : Tr K → Bool
  | .lf => false
  | .nd n u v => if icmp O b e n.kb n.ke = 0 then true else if (match rmx u with | none => false | some m => decide (0 < O.cm m.2 b)) then isect b e u else isect b e v
variable {O}
theorem isect_l {b e : K} {n : ND K} {u v : Tr K} (h1 : ¬ icmp O b e n.kb n.ke = 0) (h2 : (match rmx u with | none => false | some m => decide (0 < O.cm m.2 b)) = true) : isect O b e (.nd n u v) = isect O b e u := by
  rw [isect, if_neg h1, if_pos h2]
theorem isect_r {b e : K} {n : ND K} {u v : Tr K} (h1 : ¬ icmp O b e n.kb n.ke = 0) (h2 : ¬ (match rmx u with | none => false | some m => decide (0 < O.cm m.2 b)) = true) : isect O b e (.nd n u v) = isect O b e v := by
  rw [isect, if_neg h1, if_neg h2]
end


set_option maxHeartbeats 16000000 in
theorem itIsect (R : HP) (K : Type) (O : KO K) (tb sb : Nat) (cnt : Int) (sc : List Value) (W : Tr K) (it jt : TypeId) (ix jx : Value) (kb ke : K) (hW : TOk O R W) (hb : O.Val R (Value.iface it ix) kb) (he : O.Val R (Value.iface jt jx) ke) :
    Tri Try.prog 148 #[(vQ tb), (vA #[((Value.iface it ix)), ((Value.iface jt jx))])] R [cl tb 188 [(vQ (rt sb W)), (vI .i64 cnt), (vQ sb)], tr sb sb W, clf sb 185 sc] (fun v__ post__ => v__ = (vB (isect O kb ke W)) ∧ post__ = [cl tb 188 [(vQ (rt sb W)), (vI .i64 cnt), (vQ sb)], tr sb sb W, clf sb 185 sc]) := by
 refine Tri.into (n := 61) (al := [(vQ tb), (vA #[((Value.iface it ix)), ((Value.iface jt jx))])]) Try.func148 rfl Try.ntmps148 rfl rfl fun w F H => ?_
 refine C_seq (fun K1_ hK1_ => C_reg ?_)
 refine S_list (T_box (v := (vA #[((Value.iface it ix)), ((Value.iface jt jx))])) rfl H ?_)
 intro b2_ w3_ S5_ H4_
 have S6_ := Same.trans (Same.refl w) S5_
 refine sv (v := (vB false)) (x_assign rfl) ?_
 refine wpList_nil (X_then (hK1_ _ _ ?_))
 clear hK1_
 refine C_seq (fun K7_ hK7_ => C_reg ?_)
 refine sv (v := (vQ tb)) (x_move rfl) ?_
 refine sv (v := (vQ tb)) (by kernel_rfl) ?_
 refine sv (v := (vQ tb)) (by kernel_rfl) ?_
 refine sv (v := (vQ (rt sb W))) (x_load1 rfl Try.underlying182 rfl ((Holds.rd H4_ 2 rfl) 0 (vQ (rt sb W)) rfl)) ?_
 refine sv (v := (vQ (rt sb W))) (x_assign rfl) ?_
 refine wpList_nil (X_then (hK7_ _ _ ?_))
 clear hK7_
 refine C_seq (fun K8_ hK8_ => ?_)
 refine C_block ?_
 have H9_ : Holds w3_ (cx sb (rt sb W) ([] : List (Fr K)) :: cl b2_ 111 [((Value.iface it ix)), ((Value.iface jt jx))] :: ro R :: cl tb 188 [(vQ (rt sb W)), (vI .i64 cnt), (vQ sb)] :: tr sb sb W :: clf sb 185 sc :: F) := Holds.cx_nil H4_
 have eH10_ : tr sb sb W = tr sb (pa sb ([] : List (Fr K))) W := by first | rfl | (congr 1 <;> first | rfl | omega | (simp; done) | (simp; omega))
 have H10_ : Holds w3_ (cx sb (rt sb W) ([] : List (Fr K)) :: cl b2_ 111 [((Value.iface it ix)), ((Value.iface jt jx))] :: ro R :: cl tb 188 [(vQ (rt sb W)), (vI .i64 cnt), (vQ sb)] :: tr sb (pa sb ([] : List (Fr K))) W :: clf sb 185 sc :: F) := cast1 (P := fun c__ => Holds w3_ (cx sb (rt sb W) ([] : List (Fr K)) :: cl b2_ 111 [((Value.iface it ix)), ((Value.iface jt jx))] :: ro R :: cl tb 188 [(vQ (rt sb W)), (vI .i64 cnt), (vQ sb)] :: c__ :: clf sb 185 sc :: F)) eH10_ H9_
 refine C_loop (γ := (List (Fr K)) × (Tr K)) (fun x__ a__ w1__ => match x__ with | ⟨C1, T⟩ => ∃ h : Env, a__ = mkA 61 (upd (upd (upd (upd h 0 (vQ tb)) 3 (vQ b2_)) 4 (vB false)) 5 (vQ (rt sb T))) [] ∧ Holds w1__ (cx sb (rt sb T) C1 :: cl b2_ 111 [((Value.iface it ix)), ((Value.iface jt jx))] :: ro R :: cl tb 188 [(vQ (rt sb W)), (vI .i64 cnt), (vQ sb)] :: tr sb (pa sb C1) T :: clf sb 185 sc :: F) ∧ Same w w1__ ∧ (plug C1 T = W) ∧ (TOk O R T) ∧ (isect O kb ke W = isect O kb ke T)) (fun x__ => match x__ with | ⟨C1, T⟩ => (ino T).length) (⟨([] : List (Fr K)), W⟩) ⟨_, congrArg (fun e => mkA 61 e []) (ch (ch (ch (ch rfl rfl) rfl) rfl) rfl), H10_, S6_, (rfl), (hW), (rfl)⟩ ?_
 rintro ⟨C1, T⟩ _ w11_ ⟨h, rfl, H12_, S13_, hpl, hTk, heq⟩
 refine C_seq (fun K14_ hK14_ => ?_)
 refine C_seq (fun K15_ hK15_ => C_reg ?_)
 rcases T with _ | ⟨f16_n, f16_a, f16_b⟩
 ·skip
  have H17_ : Holds w11_ (cx sb sb C1 :: cl b2_ 111 [((Value.iface it ix)), ((Value.iface jt jx))] :: ro R :: cl tb 188 [(vQ (rt sb W)), (vI .i64 cnt), (vQ sb)] :: tr sb (pa sb C1) (Tr.lf : Tr K) :: clf sb 185 sc :: F) := (H12_)
  refine sv (v := (vQ sb)) (x_move rfl) ?_
  refine sv (v := (vQ tb)) (x_move rfl) ?_
  refine sv (v := (vQ tb)) (by kernel_rfl) ?_
  refine sv (v := (vP (some ⟨tb, 2, none⟩))) (by kernel_rfl) ?_
  refine sv (v := (vQ sb)) (x_load1 rfl Try.underlying182 rfl ((Holds.rd H17_ 3 rfl) 2 (vQ sb) rfl)) ?_
  refine sv (v := (vB false)) (x_neP rfl rfl Try.underlying182 z185) ?_
  refine sv (v := (vB false)) (x_move rfl) ?_
  refine S_no (j := 6) (dj := 16) (b := false) rfl rfl rfl (by decide) ?_
  refine S_no (j := 6) (dj := 16) (b := false) rfl rfl rfl (by decide) ?_
  refine S_no (j := 6) (dj := 16) (b := false) rfl rfl rfl (by decide) ?_
  refine S_no (j := 6) (dj := 16) (b := false) rfl rfl rfl (by decide) ?_
  refine S_no (j := 6) (dj := 16) (b := false) rfl rfl rfl (by decide) ?_
  refine S_no (j := 6) (dj := 16) (b := false) rfl rfl rfl (by decide) ?_
  refine S_no (j := 6) (dj := 16) (b := false) rfl rfl rfl (by decide) ?_
  refine S_list (T_pickF (v := (vB false)) rfl rfl ?_)
  refine wpList_nil (X_then (hK15_ _ _ ?_))
  clear hK15_
  refine C_condF rfl ?_
  refine C_exit (X_thenX (X_thenX (X_blkHit ?_)))
  refine (X_then (hK8_ _ _ ?_))
  clear hK8_
  refine C_seq (fun K18_ hK18_ => C_reg ?_)
  refine sv (v := (vQ sb)) (x_move rfl) ?_
  refine sv (v := (vQ tb)) (x_move rfl) ?_
  refine sv (v := (vQ tb)) (by kernel_rfl) ?_
  refine sv (v := (vP (some ⟨tb, 2, none⟩))) (by kernel_rfl) ?_
  refine sv (v := (vQ sb)) (x_load1 rfl Try.underlying182 rfl ((Holds.rd H17_ 3 rfl) 2 (vQ sb) rfl)) ?_
  refine sv (v := (vB false)) (x_neP rfl rfl Try.underlying182 z185) ?_
  refine sv (v := (vB false)) (x_assign rfl) ?_
  refine wpList_nil (X_then (hK18_ _ _ ?_))
  clear hK18_
  refine C_ret ?_
  refine R_any (v := (vB false)) (run_results1 rfl rfl) ?_
  have H19_ : Holds w11_ (cx sb (rt sb (Tr.lf : Tr K)) C1 :: cl b2_ 111 [((Value.iface it ix)), ((Value.iface jt jx))] :: ro R :: cl tb 188 [(vQ (rt sb W)), (vI .i64 cnt), (vQ sb)] :: tr sb (pa sb C1) (Tr.lf : Tr K) :: clf sb 185 sc :: F) := (H17_)
  have H20_ := ((Holds.bring H19_ 4 rfl) :)
  have H21_ := Holds.plug_in (C := C1) (t := (Tr.lf : Tr K)) H20_
  have H22_ := H21_; rw [hpl] at H22_
  have H23_ : Holds w11_ (ro R :: cl tb 188 [(vQ (rt sb W)), (vI .i64 cnt), (vQ sb)] :: tr sb sb W :: clf sb 185 sc :: F) := (Holds.pkF H22_ [2, 2, 0, 1] 1 :)
  exact ⟨_, _, rfl, ⟨(congrArg vB ((by rw [heq]; first | rfl | (simp [isect]; omega) | (simp_all [isect])) : false = (isect O kb ke W))), rfl⟩, S13_, H23_⟩
 ·skip
  have H24_ : Holds w11_ (cx sb f16_n.a C1 :: cl b2_ 111 [((Value.iface it ix)), ((Value.iface jt jx))] :: ro R :: cl tb 188 [(vQ (rt sb W)), (vI .i64 cnt), (vQ sb)] :: tr sb (pa sb C1) (Tr.nd f16_n f16_a f16_b) :: clf sb 185 sc :: F) := (H12_)
  have H25_ := ((Holds.bring H24_ 4 rfl) :)
  have H26_ := Holds.tr_nd H25_
  refine sv (v := (vQ f16_n.a)) (x_move rfl) ?_
  refine sv (v := (vQ tb)) (x_move rfl) ?_
  refine sv (v := (vQ tb)) (by kernel_rfl) ?_
  refine sv (v := (vP (some ⟨tb, 2, none⟩))) (by kernel_rfl) ?_
  refine sv (v := (vQ sb)) (x_load1 rfl Try.underlying182 rfl ((Holds.rd H26_ 6 rfl) 2 (vQ sb) rfl)) ?_
  have hpc27_ : f16_n.a ≠ sb := Holds.ne_f H26_ 0 rfl 7 rfl (by decide)
  refine sv (v := (vB true)) (x_cast (x_nePN rfl rfl Try.underlying182 z185 (by decide) (Holds.blk H26_ 0 rfl) (Holds.blk H26_ 7 rfl)) (congrArg vB (decide_eq_true hpc27_))) ?_
  refine sv (v := (vB true)) (x_move rfl) ?_
  refine S_yes (j := 6) (dj := 16) (b := true) rfl rfl rfl (T_val (v := (vQ f16_n.a)) (x_move rfl) ?_)
  refine S_yes (j := 6) (dj := 16) (b := true) rfl rfl rfl (T_val (v := (vQ f16_n.a)) (by kernel_rfl) ?_)
  refine S_yes (j := 6) (dj := 16) (b := true) rfl rfl rfl (T_val (v := (vQ f16_n.a)) (by kernel_rfl) ?_)
  refine S_yes (j := 6) (dj := 16) (b := true) rfl rfl rfl (T_val (v := (vQ f16_n.a)) (by kernel_rfl) ?_)
  refine S_yes (j := 6) (dj := 16) (b := true) rfl rfl rfl (T_val (v := (Value.iface 290 (vQ f16_n.a))) (by kernel_rfl) ?_)
  have H29_ := ((Holds.bring (Holds.bring H26_ 4 rfl) 5 rfl) :)
  refine S_yes (j := 6) (dj := 16) (b := true) rfl rfl rfl (T_call (al := [(vQ b2_), (Value.iface 290 (vQ f16_n.a))]) (pre := [cl b2_ 111 [((Value.iface it ix)), ((Value.iface jt jx))], clf f16_n.a 185 [f16_n.b, f16_n.e, f16_n.v, f16_n.mx, (vQ (rt sb f16_a)), (vQ (rt sb f16_b)), (vQ (pa sb C1)), (vI .i64 f16_n.c)]]) rfl rfl cb163 (itCmp R K O b2_ f16_n (rt sb f16_a) (rt sb f16_b) (pa sb C1) it jt ix jx kb ke (hb) (he) (hTk.1)) H29_ ?_)
  rintro v28_ p33_ w30_ ⟨rfl, rfl⟩ S32_ H31_
  have S34_ := Same.trans S13_ S32_
  refine S_yes (j := 6) (dj := 16) (b := true) rfl rfl rfl (T_val (v := (vB (decide (icmp O kb ke f16_n.kb f16_n.ke ≠ 0)))) (x_bin rfl rfl rfl) ?_)
  refine S_list (T_pickT (v := (vB (decide (icmp O kb ke f16_n.kb f16_n.ke ≠ 0)))) rfl rfl ?_)
  refine wpList_nil (X_then (hK15_ _ _ ?_))
  clear hK15_
  refine C_cond (b := decide (icmp O kb ke f16_n.kb f16_n.ke ≠ 0)) rfl (fun c35_t => ?_) (fun c35_f => ?_)
  ·have c35_tp : icmp O kb ke f16_n.kb f16_n.ke ≠ 0 := of_decide_eq_true c35_t
   refine C_skip (X_then (hK14_ _ _ ?_))
   clear hK14_
   refine C_block ?_
   refine C_seq (fun K36_ hK36_ => ?_)
   refine A_start (S := fun w => Rd b2_ [((Value.iface it ix)), ((Value.iface jt jx))] w ∧ (Rd f16_n.a [f16_n.b, f16_n.e, f16_n.v, f16_n.mx, (vQ (rt sb f16_a)), (vQ (rt sb f16_b)), (vQ (pa sb C1)), (vI .i64 f16_n.c)] w ∧ Blk w f16_n.a) ∧ RtRd w (rt sb f16_a) (rmx f16_a) ∧ RtRd w (rt sb f16_b) (rmx f16_b) ∧ Rd tb [(vQ (rt sb W)), (vI .i64 cnt), (vQ sb)] w ∧ Sub R (hp w)) (N := 22) foll rfl rfl ?_
   have H37_ := Holds.drew_ H31_
   have hq38_ := And.intro (Holds.rd H37_ 1 rfl) (And.intro ((And.intro (Holds.rdf H37_ 2 rfl) (Holds.blk H37_ 2 rfl))) (And.intro (Holds.tr_rd H37_ 3 rfl 7 rfl) (And.intro (Holds.tr_rd H37_ 4 rfl 7 rfl) (And.intro (Holds.rd H37_ 6 rfl) ((Holds.ro_at H37_ 0 rfl))))))
   refine A_tk 0 (v := (vQ f16_n.a)) rfl (by kernel_rfl) (fun w hS => x_move rfl) hq38_ ?_
   refine A_tk 1 (v := (vQ f16_n.a)) rfl (by kernel_rfl) (fun w hS => by kernel_rfl) hq38_ ?_
   refine A_tk 2 (v := (vP (some ⟨f16_n.a, 4, none⟩))) rfl (by kernel_rfl) (fun w hS => by kernel_rfl) hq38_ ?_
   refine A_tk 3 (v := (vQ (rt sb f16_a))) rfl (by kernel_rfl) (fun w hS => x_load1 rfl Try.underlying182 rfl (hS.2.1.1 4 (vQ (rt sb f16_a)) rfl)) hq38_ ?_
   refine A_tk 4 (v := (vQ tb)) rfl (by kernel_rfl) (fun w hS => x_move rfl) hq38_ ?_
   refine A_tk 5 (v := (vQ tb)) rfl (by kernel_rfl) (fun w hS => by kernel_rfl) hq38_ ?_
   refine A_tk 6 (v := (vP (some ⟨tb, 2, none⟩))) rfl (by kernel_rfl) (fun w hS => by kernel_rfl) hq38_ ?_
   refine A_tk 7 (v := (vQ sb)) rfl (by kernel_rfl) (fun w hS => x_load1 rfl Try.underlying182 rfl (hS.2.2.2.2.1 2 (vQ sb) rfl)) hq38_ ?_
   have hpc39_ : (rt sb f16_a) = sb ↔ (rmx f16_a).isNone = true := Holds.tr_iff H37_ 3 rfl 7 rfl (by decide)
   refine A_ready (i := 8) (rs := []) (by kernel_rfl) ?_
   refine AllR.cons ?_ AllR.nil
   refine A_op (ls' := #[true, true, true, true, true, true, true, true, true, false, false, false, false, false, false, false, false, false, false, false, false, false]) rfl (by kernel_rfl) (T_val (v := (vB (!(rmx f16_a).isNone))) (x_cast (x_nePN rfl rfl Try.underlying182 z185 (by decide) (Holds.tr_rd H37_ 3 rfl 7 rfl).blk (Holds.blk H37_ 7 rfl)) (congrArg vB (dec_nbool hpc39_))) ?_)
   refine ⟨⟨Holds.rd H37_ 1 rfl, (And.intro (Holds.rdf H37_ 2 rfl) (Holds.blk H37_ 2 rfl)), Holds.tr_rd H37_ 3 rfl 7 rfl, Holds.tr_rd H37_ 4 rfl 7 rfl, Holds.rd H37_ 6 rfl, (Holds.ro_at H37_ 0 rfl)⟩, ?_⟩
   refine A_tk 9 (v := (vB (!(rmx f16_a).isNone))) rfl (by kernel_rfl) (fun w hS => x_move rfl) hq38_ ?_
   rcases Bool.eq_false_or_eq_true (!(rmx f16_a).isNone) with c40_t | c40_f
   ·skip
    obtain ⟨m41_, m41_h⟩ : ∃ x, (rmx f16_a) = some x := isNone_some (by simpa using c40_t)
    refine A_tkY 10 (j := 9) (dj := 34) (b := true) (v := (vQ f16_n.a)) rfl (by kernel_rfl) rfl rfl (congrArg vB c40_t) (fun w hS => x_move rfl) hq38_ ?_
    refine A_tkY 11 (j := 9) (dj := 34) (b := true) (v := (vQ f16_n.a)) rfl (by kernel_rfl) rfl rfl (congrArg vB c40_t) (fun w hS => by kernel_rfl) hq38_ ?_
    refine A_tkY 12 (j := 9) (dj := 34) (b := true) (v := (vP (some ⟨f16_n.a, 4, none⟩))) rfl (by kernel_rfl) rfl rfl (congrArg vB c40_t) (fun w hS => by kernel_rfl) hq38_ ?_
    refine A_tkY 13 (j := 9) (dj := 34) (b := true) (v := (vQ (rt sb f16_a))) rfl (by kernel_rfl) rfl rfl (congrArg vB c40_t) (fun w hS => x_load1 rfl Try.underlying182 rfl (hS.2.1.1 4 (vQ (rt sb f16_a)) rfl)) hq38_ ?_
    refine A_tkY 14 (j := 9) (dj := 34) (b := true) (v := (vQ (rt sb f16_a))) rfl (by kernel_rfl) rfl rfl (congrArg vB c40_t) (fun w hS => by kernel_rfl) hq38_ ?_
    refine A_tkY 15 (j := 9) (dj := 34) (b := true) (v := (vP (some ⟨(rt sb f16_a), 3, none⟩))) rfl (by kernel_rfl) rfl rfl (congrArg vB c40_t) (fun w hS => by kernel_rfl) hq38_ ?_
    refine A_tkY 16 (j := 9) (dj := 34) (b := true) (v := m41_.1) rfl (by kernel_rfl) rfl rfl (congrArg vB c40_t) (fun w hS => x_load1 rfl Try.underlying109 rfl (hS.2.2.1.rd m41_ m41_h)) hq38_ ?_
    refine A_tkY 17 (j := 9) (dj := 34) (b := true) (v := (vQ b2_)) rfl (by kernel_rfl) rfl rfl (congrArg vB c40_t) (fun w hS => by kernel_rfl) hq38_ ?_
    refine A_tkY 18 (j := 9) (dj := 34) (b := true) (v := ((Value.iface it ix))) rfl (by kernel_rfl) rfl rfl (congrArg vB c40_t) (fun w hS => x_load1 rfl Try.underlying109 rfl (hS.1 0 ((Value.iface it ix)) rfl)) hq38_ ?_
    refine A_ready (i := 19) (rs := []) (by kernel_rfl) ?_
    refine AllR.cons ?_ AllR.nil
    refine A_opYes (ls' := #[true, true, true, true, true, true, true, true, true, true, true, true, true, true, true, true, true, true, true, true, false, false]) (j := 9) (dj := 34) (b := true) rfl (by kernel_rfl) rfl rfl (congrArg vB c40_t) (T_cmp rfl rfl (O.cmp (TOk.mx hTk.2.1 m41_ m41_h) hb) H37_ 0 rfl ?_)
    intro w42_ S44_ H43_
    have S45_ := Same.trans (Same.trans S34_ (Same.drew _)) S44_
    refine ⟨⟨Holds.rd H43_ 1 rfl, (And.intro (Holds.rdf H43_ 2 rfl) (Holds.blk H43_ 2 rfl)), Holds.tr_rd H43_ 3 rfl 7 rfl, Holds.tr_rd H43_ 4 rfl 7 rfl, Holds.rd H43_ 6 rfl, (Holds.ro_at H43_ 0 rfl)⟩, ?_⟩
    have hq46_ := And.intro (Holds.rd H43_ 1 rfl) (And.intro ((And.intro (Holds.rdf H43_ 2 rfl) (Holds.blk H43_ 2 rfl))) (And.intro (Holds.tr_rd H43_ 3 rfl 7 rfl) (And.intro (Holds.tr_rd H43_ 4 rfl 7 rfl) (And.intro (Holds.rd H43_ 6 rfl) ((Holds.ro_at H43_ 0 rfl))))))
    refine A_tkY 20 (j := 9) (dj := 34) (b := true) (v := (vB (decide (0 < O.cm m41_.2 kb)))) rfl (by kernel_rfl) rfl rfl (congrArg vB c40_t) (fun w hS => x_bin rfl rfl rfl) hq46_ ?_
    refine A_tk 21 (v := (vB (decide (0 < O.cm m41_.2 kb)))) rfl (by kernel_rfl) (fun w hS => (x_pickT (congrArg vB c40_t) rfl)) hq46_ ?_
    refine A_done (by kernel_rfl) ?_
    refine (X_then (hK36_ _ _ ?_))
    clear hK36_
    refine C_cond (b := decide (0 < O.cm m41_.2 kb)) rfl (fun c47_t => ?_) (fun c47_f => ?_)
    ·have c47_tp : 0 < O.cm m41_.2 kb := of_decide_eq_true c47_t
     refine C_reg ?_
     refine sv (v := (vQ f16_n.a)) (x_move rfl) ?_
     refine sv (v := (vQ f16_n.a)) (by kernel_rfl) ?_
     refine sv (v := (vP (some ⟨f16_n.a, 4, none⟩))) (by kernel_rfl) ?_
     refine sv (v := (vQ (rt sb f16_a))) (x_load1 rfl Try.underlying182 rfl ((Holds.rdf H43_ 2 rfl) 4 (vQ (rt sb f16_a)) rfl)) ?_
     refine sv (v := (vQ (rt sb f16_a))) (x_assign rfl) ?_
     refine wpList_nil (X_blkN (X_then ?_))
     have H48_ := ((Holds.bring (Holds.bring (Holds.bring H43_ 5 rfl) 5 rfl) 4 rfl) :)
     have H49_ := Holds.cons_cx (sb := sb) (f := (⟨true, f16_n, f16_b⟩ : Fr K)) (C := C1) (x := (rt sb f16_a)) H48_
     have H50_ : Holds w42_ (cx sb (rt sb f16_a) ((⟨true, f16_n, f16_b⟩ : Fr K) :: C1) :: ro R :: cl b2_ 111 [((Value.iface it ix)), ((Value.iface jt jx))] :: tr sb (pa sb ((⟨true, f16_n, f16_b⟩ : Fr K) :: C1)) f16_a :: cl tb 188 [(vQ (rt sb W)), (vI .i64 cnt), (vQ sb)] :: clf sb 185 sc :: F) := (H49_)
     have H51_ : Holds w42_ (cx sb (rt sb f16_a) ((⟨true, f16_n, f16_b⟩ : Fr K) :: C1) :: cl b2_ 111 [((Value.iface it ix)), ((Value.iface jt jx))] :: ro R :: cl tb 188 [(vQ (rt sb W)), (vI .i64 cnt), (vQ sb)] :: tr sb (pa sb ((⟨true, f16_n, f16_b⟩ : Fr K) :: C1)) f16_a :: clf sb 185 sc :: F) := (Holds.pkF H50_ [0, 1, 0, 1, 0, 0] 0 :)
     exact ⟨⟨((⟨true, f16_n, f16_b⟩ : Fr K) :: C1), f16_a⟩, ⟨_, congrArg (fun e => mkA 61 e []) (ch (ch (ch (ch rfl rfl) rfl) rfl) rfl), H51_, S45_, (hpl), (hTk.2.1), (by rw [heq]; exact isect_l (by omega) (by rw [m41_h]; simp; try omega))⟩, (by first | (simp [ino]; done) | (simp [ino]; omega))⟩
    ·have c47_fp : ¬ (0 < O.cm m41_.2 kb) := of_decide_eq_false c47_f
     refine C_reg ?_
     refine sv (v := (vQ f16_n.a)) (x_move rfl) ?_
     refine sv (v := (vQ f16_n.a)) (by kernel_rfl) ?_
     refine sv (v := (vP (some ⟨f16_n.a, 5, none⟩))) (by kernel_rfl) ?_
     refine sv (v := (vQ (rt sb f16_b))) (x_load1 rfl Try.underlying182 rfl ((Holds.rdf H43_ 2 rfl) 5 (vQ (rt sb f16_b)) rfl)) ?_
     refine sv (v := (vQ (rt sb f16_b))) (x_assign rfl) ?_
     refine wpList_nil (X_blkN (X_then ?_))
     have H52_ := ((Holds.bring (Holds.bring (Holds.bring H43_ 5 rfl) 4 rfl) 4 rfl) :)
     have H53_ := Holds.cons_cx (sb := sb) (f := (⟨false, f16_n, f16_a⟩ : Fr K)) (C := C1) (x := (rt sb f16_b)) H52_
     have H54_ : Holds w42_ (cx sb (rt sb f16_b) ((⟨false, f16_n, f16_a⟩ : Fr K) :: C1) :: ro R :: cl b2_ 111 [((Value.iface it ix)), ((Value.iface jt jx))] :: tr sb (pa sb ((⟨false, f16_n, f16_a⟩ : Fr K) :: C1)) f16_b :: cl tb 188 [(vQ (rt sb W)), (vI .i64 cnt), (vQ sb)] :: clf sb 185 sc :: F) := (H53_)
     have H55_ : Holds w42_ (cx sb (rt sb f16_b) ((⟨false, f16_n, f16_a⟩ : Fr K) :: C1) :: cl b2_ 111 [((Value.iface it ix)), ((Value.iface jt jx))] :: ro R :: cl tb 188 [(vQ (rt sb W)), (vI .i64 cnt), (vQ sb)] :: tr sb (pa sb ((⟨false, f16_n, f16_a⟩ : Fr K) :: C1)) f16_b :: clf sb 185 sc :: F) := (Holds.pkF H54_ [0, 1, 0, 1, 0, 0] 0 :)
     exact ⟨⟨((⟨false, f16_n, f16_a⟩ : Fr K) :: C1), f16_b⟩, ⟨_, congrArg (fun e => mkA 61 e []) (ch (ch (ch (ch rfl rfl) rfl) rfl) rfl), H55_, S45_, (hpl), (hTk.2.2), (by rw [heq]; exact isect_r (by omega) (by rw [m41_h]; simp; try omega))⟩, (by first | (simp [ino]; done) | (simp [ino]; omega))⟩
   ·skip
    have m56_ : (rmx f16_a) = none := isNone_none (by simpa using c40_f)
    refine A_tkN 10 (j := 9) (dj := 34) (b := false) rfl (by kernel_rfl) rfl rfl (congrArg vB c40_f) (by decide) hq38_ ?_
    refine A_tkN 11 (j := 9) (dj := 34) (b := false) rfl (by kernel_rfl) rfl rfl (congrArg vB c40_f) (by decide) hq38_ ?_
    refine A_tkN 12 (j := 9) (dj := 34) (b := false) rfl (by kernel_rfl) rfl rfl (congrArg vB c40_f) (by decide) hq38_ ?_
    refine A_tkN 13 (j := 9) (dj := 34) (b := false) rfl (by kernel_rfl) rfl rfl (congrArg vB c40_f) (by decide) hq38_ ?_
    refine A_tkN 14 (j := 9) (dj := 34) (b := false) rfl (by kernel_rfl) rfl rfl (congrArg vB c40_f) (by decide) hq38_ ?_
    refine A_tkN 15 (j := 9) (dj := 34) (b := false) rfl (by kernel_rfl) rfl rfl (congrArg vB c40_f) (by decide) hq38_ ?_
    refine A_tkN 16 (j := 9) (dj := 34) (b := false) rfl (by kernel_rfl) rfl rfl (congrArg vB c40_f) (by decide) hq38_ ?_
    refine A_tkN 17 (j := 9) (dj := 34) (b := false) rfl (by kernel_rfl) rfl rfl (congrArg vB c40_f) (by decide) hq38_ ?_
    refine A_tkN 18 (j := 9) (dj := 34) (b := false) rfl (by kernel_rfl) rfl rfl (congrArg vB c40_f) (by decide) hq38_ ?_
    refine A_tkN 19 (j := 9) (dj := 34) (b := false) rfl (by kernel_rfl) rfl rfl (congrArg vB c40_f) (by decide) hq38_ ?_
    refine A_tkN 20 (j := 9) (dj := 34) (b := false) rfl (by kernel_rfl) rfl rfl (congrArg vB c40_f) (by decide) hq38_ ?_
    refine A_tk 21 (v := (vB false)) rfl (by kernel_rfl) (fun w hS => (x_pickF (congrArg vB c40_f) rfl)) hq38_ ?_
    refine A_done (by kernel_rfl) ?_
    refine (X_then (hK36_ _ _ ?_))
    clear hK36_
    refine C_condF rfl ?_
    refine C_reg ?_
    refine sv (v := (vQ f16_n.a)) (x_move rfl) ?_
    refine sv (v := (vQ f16_n.a)) (by kernel_rfl) ?_
    refine sv (v := (vP (some ⟨f16_n.a, 5, none⟩))) (by kernel_rfl) ?_
    refine sv (v := (vQ (rt sb f16_b))) (x_load1 rfl Try.underlying182 rfl ((Holds.rdf H37_ 2 rfl) 5 (vQ (rt sb f16_b)) rfl)) ?_
    refine sv (v := (vQ (rt sb f16_b))) (x_assign rfl) ?_
    refine wpList_nil (X_blkN (X_then ?_))
    have H57_ := ((Holds.bring (Holds.bring (Holds.bring H37_ 5 rfl) 4 rfl) 4 rfl) :)
    have H58_ := Holds.cons_cx (sb := sb) (f := (⟨false, f16_n, f16_a⟩ : Fr K)) (C := C1) (x := (rt sb f16_b)) H57_
    have H59_ : Holds w30_.drew (cx sb (rt sb f16_b) ((⟨false, f16_n, f16_a⟩ : Fr K) :: C1) :: ro R :: cl b2_ 111 [((Value.iface it ix)), ((Value.iface jt jx))] :: tr sb (pa sb ((⟨false, f16_n, f16_a⟩ : Fr K) :: C1)) f16_b :: cl tb 188 [(vQ (rt sb W)), (vI .i64 cnt), (vQ sb)] :: clf sb 185 sc :: F) := (H58_)
    have H60_ : Holds w30_.drew (cx sb (rt sb f16_b) ((⟨false, f16_n, f16_a⟩ : Fr K) :: C1) :: cl b2_ 111 [((Value.iface it ix)), ((Value.iface jt jx))] :: ro R :: cl tb 188 [(vQ (rt sb W)), (vI .i64 cnt), (vQ sb)] :: tr sb (pa sb ((⟨false, f16_n, f16_a⟩ : Fr K) :: C1)) f16_b :: clf sb 185 sc :: F) := (Holds.pkF H59_ [0, 1, 0, 1, 0, 0] 0 :)
    exact ⟨⟨((⟨false, f16_n, f16_a⟩ : Fr K) :: C1), f16_b⟩, ⟨_, congrArg (fun e => mkA 61 e []) (ch (ch (ch (ch rfl rfl) rfl) rfl) rfl), H60_, (Same.trans S34_ (Same.drew _)), (hpl), (hTk.2.2), (by rw [heq]; exact isect_r (by omega) (by rw [m56_]; simp; try omega))⟩, (by first | (simp [ino]; done) | (simp [ino]; omega))⟩
  ·have c35_fp : ¬ (icmp O kb ke f16_n.kb f16_n.ke ≠ 0) := of_decide_eq_false c35_f
   refine C_exit (X_thenX (X_thenX (X_blkHit ?_)))
   refine (X_then (hK8_ _ _ ?_))
   clear hK8_
   refine C_seq (fun K61_ hK61_ => C_reg ?_)
   refine sv (v := (vQ f16_n.a)) (x_move rfl) ?_
   refine sv (v := (vQ tb)) (x_move rfl) ?_
   refine sv (v := (vQ tb)) (by kernel_rfl) ?_
   refine sv (v := (vP (some ⟨tb, 2, none⟩))) (by kernel_rfl) ?_
   refine sv (v := (vQ sb)) (x_load1 rfl Try.underlying182 rfl ((Holds.rd H31_ 6 rfl) 2 (vQ sb) rfl)) ?_
   refine sv (v := (vB true)) (x_cast (x_nePN rfl rfl Try.underlying182 z185 (by decide) (Holds.blk H31_ 2 rfl) (Holds.blk H31_ 7 rfl)) (congrArg vB (decide_eq_true hpc27_))) ?_
   refine sv (v := (vB true)) (x_assign rfl) ?_
   refine wpList_nil (X_then (hK61_ _ _ ?_))
   clear hK61_
   refine C_ret ?_
   refine R_any (v := (vB true)) (run_results1 rfl rfl) ?_
   have H62_ := ((Holds.bring (Holds.bring (Holds.bring H31_ 4 rfl) 4 rfl) 4 rfl) :)
   have H63_ := Holds.nd_tr (n := f16_n) (a := f16_a) (b := f16_b) H62_
   have H64_ : Holds w30_ (tr sb (pa sb C1) (Tr.nd f16_n f16_a f16_b) :: ro R :: cl b2_ 111 [((Value.iface it ix)), ((Value.iface jt jx))] :: cx sb (rt sb (Tr.nd f16_n f16_a f16_b)) C1 :: cl tb 188 [(vQ (rt sb W)), (vI .i64 cnt), (vQ sb)] :: clf sb 185 sc :: F) := (H63_)
   have H65_ := ((Holds.bring (Holds.bring H64_ 3 rfl) 1 rfl) :)
   have H66_ := Holds.plug_in (C := C1) (t := (Tr.nd f16_n f16_a f16_b)) H65_
   have H67_ := H66_; rw [hpl] at H67_
   have H68_ : Holds w30_ (ro R :: cl tb 188 [(vQ (rt sb W)), (vI .i64 cnt), (vQ sb)] :: tr sb sb W :: clf sb 185 sc :: F) := (Holds.pkF H67_ [1, 2, 0, 1] 1 :)
   exact ⟨_, _, rfl, ⟨(congrArg vB ((by rw [heq]; first | rfl | (simp [isect]; omega) | (simp_all [isect])) : true = (isect O kb ke W))), rfl⟩, S34_, H68_⟩
end Go.Proofs.Ytlnihndjepjagaa
set_option linter.unusedVariables false
set_option linter.unusedSimpArgs false
namespace Go.Proofs.Ytlnihndjepjagaa
open Go Go.RowKit Gw
open Go.Value renaming int → vI, bool → vB, slice → vS, pointer → vP, agg → vA, tuple → vT

section
variable {K : Type} (O : KO K)
section
variable {σ : Type} (step : σ → ND K → σ × Bool)
/-- What a visit does: the nodes that meet [b, e), in order, till a step says stop. -/
def vis (b e : K) : Tr K → σ → σ × Bool
  | .lf, s => (s, true)
  | .nd n u v, s =>
    if icmp O b e n.kb n.ke < 0 then vis b e u s
    else if 0 < icmp O b e n.kb n.ke then
      (if icmp O n.kb n.km b e = 0 then (if (vis b e u s).2 then vis b e v (vis b e u s).1 else ((vis b e u s).1, false)) else (s, true))
    else if (vis b e u s).2 then
      (if (step (vis b e u s).1 n).2 then vis b e v (step (vis b e u s).1 n).1 else ((step (vis b e u s).1 n).1, false))
    else ((vis b e u s).1, false)
/-- A list, till a step says stop. -/
def runV : List (ND K) → σ → σ × Bool
  | [], s => (s, true)
  | n :: L, s => if (step s n).2 then runV L (step s n).1 else ((step s n).1, false)
end
/-- What Contains knows on its way: the first begin and the greatest end till now; whether there was no gap. -/
structure CS (K : Type) where
  fm : Option ((Value × K) × (Value × K))
  ok : Bool
def CS.step (s : CS K) (n : ND K) : CS K × Bool :=
  match s.fm with
  | none => (⟨some ((n.b, n.kb), (n.e, n.ke)), s.ok⟩, true)
  | some (f, m) => if O.cm m.2 n.kb < 0 then (⟨s.fm, false⟩, false) else (⟨some (f, if 0 < O.cm n.ke m.2 then (n.e, n.ke) else m), s.ok⟩, true)
def CS.f (s : CS K) : Value := match s.fm with | none => .nilIface | some x => x.1.1
def CS.m (s : CS K) : Value := match s.fm with | none => .nilIface | some x => x.2.1
def CS.Ok (R : HP) (s : CS K) : Prop := ∀ x, s.fm = some x → O.Val R x.1.1 x.1.2 ∧ O.Val R x.2.1 x.2.2
/-- What Contains answers. -/
def CS.yes (s : CS K) (b e : K) : Bool := match s.fm with | none => false | some x => s.ok && decide (0 ≤ O.cm x.2.2 e) && decide (O.cm x.1.2 b ≤ 0)
end
/-! ### What a visit and a search mean -/
section
variable {K : Type} {O : KO K}
theorem KO.le_of {a b : K} (h : ¬ O.cm a b < 0) : O.cm b a ≤ 0 := by
  have := @KO.flip K O a b
  omega
theorem KO.not_le {a b : K} (h : O.cm a b < 0) : ¬ O.cm b a ≤ 0 := by
  have := @KO.flip K O a b
  omega
theorem KO.le_lt {a b c : K} (h1 : O.cm a b ≤ 0) (h2 : O.cm b c < 0) : O.cm a c < 0 := by
  refine Decidable.byContradiction fun h => ?_
  exact KO.not_le h2 (O.trans (KO.le_of h) h1)
theorem KO.lt_le {a b c : K} (h1 : O.cm a b < 0) (h2 : O.cm b c ≤ 0) : O.cm a c < 0 := by
  refine Decidable.byContradiction fun h => ?_
  exact KO.not_le h1 (O.trans h2 (KO.le_of h))
theorem KO.lt_lt {a b c : K} (h1 : O.cm a b < 0) (h2 : O.cm b c < 0) : O.cm a c < 0 := KO.lt_le h1 (by omega)
theorem KO.ge {a b : K} : 0 ≤ O.cm a b ↔ O.cm b a ≤ 0 := by
  have h1 := @KO.flip K O a b
  omega
def meets (O : KO K) (b e : K) (n : ND K) : Bool := decide (O.cm n.kb e < 0 ∧ O.cm b n.ke < 0)
theorem icmp_lt {b e kb ke : K} (hq : O.cm b e < 0) : icmp O b e kb ke < 0 ↔ O.cm e kb ≤ 0 := by
  unfold icmp
  by_cases h : O.cm e kb ≤ 0
  · rw [if_pos ⟨KO.lt_le hq h, h⟩]; simp [h]
  · rw [if_neg (fun h' => h h'.2)]
    split <;> simp [h]
theorem icmp_gt {b e kb ke : K} (hq : O.cm b e < 0) (hn : O.cm kb ke < 0) : 0 < icmp O b e kb ke ↔ O.cm ke b ≤ 0 := by
  unfold icmp
  have h1 := @KO.ge K O b ke
  by_cases h : O.cm e kb ≤ 0
  · rw [if_pos ⟨KO.lt_le hq h, h⟩]
    have : ¬ O.cm ke b ≤ 0 := KO.not_le (KO.lt_lt (KO.lt_le hq h) hn)
    simp [this]
  · rw [if_neg (fun h' => h h'.2)]
    split
    · simp; exact h1.1 (by assumption)
    · have : ¬ O.cm ke b ≤ 0 := fun h' => by have := h1.2 h'; omega
      simp [this]
theorem icmp_eq {b e kb ke : K} (hq : O.cm b e < 0) (hn : O.cm kb ke < 0) : icmp O b e kb ke = 0 ↔ O.cm kb e < 0 ∧ O.cm b ke < 0 := by
  have h1 := @icmp_lt K O b e kb ke hq
  have h2 := @icmp_gt K O b e kb ke hq hn
  have h3 := @KO.ge K O e kb
  have h4 := @KO.ge K O ke b
  have h5 := @KO.flip K O kb e
  have h6 := @KO.flip K O b ke
  omega
theorem pick_spec (a : Value × K) (ob : Option (Value × K)) : O.cm a.2 (pick O a ob).2 ≤ 0 ∧ (∀ b, ob = some b → O.cm b.2 (pick O a ob).2 ≤ 0) ∧ (pick O a ob = a ∨ ob = some (pick O a ob)) := by
  cases ob with
  | none => exact ⟨by rw [pick_none, O.refl]; exact Int.le_refl _, (fun b hb => by cases hb), .inl rfl⟩
  | some b =>
    by_cases h : 0 < O.cm b.2 a.2
    · rw [pick_gt h]
      exact ⟨by have := O.flip.2 h; omega, fun c hc => by cases hc; rw [O.refl]; exact Int.le_refl _, .inr rfl⟩
    · rw [pick_le h]
      exact ⟨by rw [O.refl]; exact Int.le_refl _, fun c hc => by cases hc; omega, .inl rfl⟩
theorem mx_spec : ∀ {t : Tr K}, LocT O t → ∀ m, rmx t = some m → (∀ n ∈ ino t, O.cm n.ke m.2 ≤ 0) ∧ ∃ n ∈ ino t, n.ke = m.2
  | .lf, _, m, hm => by cases hm
  | .nd n u v, h, m, hm => by
    obtain ⟨h1, h2, h3⟩ := h
    have hm' : m = (n.mx, n.km) := by simpa [rmx] using hm.symm
    subst hm'
    have p1 := pick_spec (O := O) (n.e, n.ke) (rmx u)
    have p2 := pick_spec (O := O) (pick O (n.e, n.ke) (rmx u)) (rmx v)
    have e1 := O.anti h1
    have hu : ∀ x ∈ ino u, O.cm x.ke n.km ≤ 0 := fun x hx => by
      cases hr : rmx u with
      | none => cases u with
        | lf => simp [ino] at hx
        | nd _ _ _ => cases hr
      | some q => rw [e1]; exact O.trans ((mx_spec h2 q hr).1 x hx) (O.trans (p1.2.1 q hr) p2.1)
    have hv : ∀ x ∈ ino v, O.cm x.ke n.km ≤ 0 := fun x hx => by
      cases hr : rmx v with
      | none => cases v with
        | lf => simp [ino] at hx
        | nd _ _ _ => cases hr
      | some q => rw [e1]; exact O.trans ((mx_spec h3 q hr).1 x hx) (p2.2.1 q hr)
    refine ⟨fun x hx => ?_, ?_⟩
    · have hx' : x ∈ ino u ∨ x = n.er ∨ x ∈ ino v := by simpa [ino] using hx
      rcases hx' with hx | rfl | hx
      · exact hu x hx
      · show O.cm n.ke n.km ≤ 0
        rw [e1]; exact O.trans p1.1 p2.1
      · exact hv x hx
    · show ∃ x ∈ ino u ++ n.er :: ino v, x.ke = n.km
      rcases p2.2.2 with h | h
      · rcases p1.2.2 with h' | h'
        · exact ⟨n.er, by simp, by show n.ke = n.km; rw [e1, h, h']⟩
        · obtain ⟨x, hx, he⟩ := (mx_spec h2 _ h').2
          exact ⟨x, by simp [hx], by rw [he, e1, h]⟩
      · obtain ⟨x, hx, he⟩ := (mx_spec h3 _ h).2
        exact ⟨x, by simp [hx], by rw [he, e1]⟩
/-- Each interval begins ahead of its end. -/
def Prp (O : KO K) (L : List (ND K)) : Prop := ∀ n ∈ L, O.cm n.kb n.ke < 0
theorem not_bef {x y : ND K} (h : ¬ bef O y.kb y.ke x) : O.cm x.kb y.kb ≤ 0 := KO.le_of fun h' => h (.inl h')
theorem srt_nd {n : ND K} {u v : Tr K} (h : srt O (ino (.nd n u v))) : srt O (ino u) ∧ srt O (ino v) ∧ (∀ x ∈ ino u, O.cm x.kb n.kb ≤ 0) ∧ (∀ y ∈ ino v, O.cm n.kb y.kb ≤ 0) := by
  unfold srt at *
  rw [ino, List.pairwise_append, List.pairwise_cons] at h
  exact ⟨h.1, h.2.1.2, fun x hx => not_bef (y := n.er) (h.2.2 x hx n.er (by simp)), fun y hy => not_bef (x := n.er) (h.2.1.1 y hy)⟩
theorem meets_icmp {b e : K} {n : ND K} (hq : O.cm b e < 0) (hn : O.cm n.kb n.ke < 0) : meets O b e n = decide (icmp O b e n.kb n.ke = 0) := by
  unfold meets
  exact decide_eq_decide.2 (icmp_eq hq hn).symm
theorem nmeet {b e : K} {n : ND K} (h : O.cm e n.kb ≤ 0 ∨ O.cm n.ke b ≤ 0) : meets O b e n = false := by
  refine decide_eq_false fun h' => ?_
  rcases h with h | h
  · exact KO.not_le h'.1 h
  · exact KO.not_le h'.2 h
theorem filter_none {α : Type} {p : α → Bool} {L : List α} (h : ∀ x ∈ L, p x = false) : L.filter p = [] := by
  rw [List.filter_eq_nil_iff]
  intro x hx
  simp [h x hx]
section
variable {σ : Type} {step : σ → ND K → σ × Bool}
theorem runV_app : ∀ (A B : List (ND K)) (s : σ), runV step (A ++ B) s = if (runV step A s).2 then runV step B (runV step A s).1 else ((runV step A s).1, false)
  | [], B, s => by simp [runV]
  | n :: A, B, s => by
    rw [List.cons_append, runV, runV]
    by_cases h : (step s n).2 = true
    · rw [if_pos h, if_pos h]; exact runV_app A B _
    · rw [if_neg h, if_neg h]; rfl
theorem vis_eq (hst : ∀ s n, step s n.er = step s n) {b e : K} (hq : O.cm b e < 0) : ∀ {t : Tr K} (s : σ), srt O (ino t) → LocT O t → Prp O (ino t) → vis O step b e t s = runV step ((ino t).filter (meets O b e)) s
  | .lf, s, _, _, _ => by simp [vis, ino, runV]
  | .nd n u v, s, hs, hl, hp => by
    obtain ⟨hsu, hsv, hu, hv⟩ := srt_nd hs
    have hn : O.cm n.kb n.ke < 0 := hp n.er (by simp [ino])
    have hpu : Prp O (ino u) := fun x hx => hp x (by simp [ino, hx])
    have hpv : Prp O (ino v) := fun x hx => hp x (by simp [ino, hx])
    have iu := fun s => vis_eq hst hq (t := u) s hsu hl.2.1 hpu
    have iv := fun s => vis_eq hst hq (t := v) s hsv hl.2.2 hpv
    have hm : meets O b e n.er = decide (icmp O b e n.kb n.ke = 0) := meets_icmp (n := n.er) hq hn
    rw [vis]
    by_cases h1 : icmp O b e n.kb n.ke < 0
    · rw [if_pos h1, iu]
      have h2 := (icmp_lt hq).1 h1
      have e1 : (ino v).filter (meets O b e) = [] := filter_none fun y hy => nmeet (.inl (O.trans h2 (hv y hy)))
      have e2 : meets O b e n.er = false := nmeet (n := n.er) (.inl h2)
      simp [ino, List.filter_append, List.filter_cons, e1, e2]
    · rw [if_neg h1]
      by_cases h2 : 0 < icmp O b e n.kb n.ke
      · rw [if_pos h2]
        have h3 := (icmp_gt hq hn).1 h2
        have e2 : meets O b e n.er = false := nmeet (n := n.er) (.inr h3)
        by_cases h4 : icmp O n.kb n.km b e = 0
        · rw [if_pos h4, iu, iv]
          have : (ino (.nd n u v)).filter (meets O b e) = (ino u).filter (meets O b e) ++ (ino v).filter (meets O b e) := by simp [ino, List.filter_append, List.filter_cons, e2]
          rw [this, runV_app]
        · rw [if_neg h4]
          have hmx := (mx_spec hl (n.mx, n.km) rfl).1
          have hk : O.cm n.kb n.km < 0 := KO.lt_le hn (hmx n.er (by simp [ino]))
          have hall : ∀ x ∈ ino (.nd n u v), meets O b e x = false := fun x hx => by
            refine Decidable.byContradiction fun hc => ?_
            have hc' : meets O b e x = true := by simpa using hc
            have hc2 := of_decide_eq_true hc'
            exact h4 ((icmp_eq hk hq).2 ⟨KO.lt_le hc2.2 (hmx x hx), KO.lt_lt (KO.lt_le hn h3) hq⟩)
          rw [filter_none hall]; rfl
      · rw [if_neg h2]
        have h3 : icmp O b e n.kb n.ke = 0 := by omega
        have e2 : meets O b e n.er = true := by rw [hm]; exact decide_eq_true h3
        have : (ino (.nd n u v)).filter (meets O b e) = (ino u).filter (meets O b e) ++ n.er :: (ino v).filter (meets O b e) := by simp [ino, List.filter_append, List.filter_cons, e2]
        rw [this, runV_app, iu, iv, runV, hst]
end
theorem isect_eq {b e : K} (hq : O.cm b e < 0) : ∀ {t : Tr K}, srt O (ino t) → LocT O t → Prp O (ino t) → isect O b e t = (ino t).any (meets O b e)
  | .lf, _, _, _ => by simp [isect, ino]
  | .nd n u v, hs, hl, hp => by
    obtain ⟨hsu, hsv, hu, hv⟩ := srt_nd hs
    have hn : O.cm n.kb n.ke < 0 := hp n.er (by simp [ino])
    have hpu : Prp O (ino u) := fun x hx => hp x (by simp [ino, hx])
    have hpv : Prp O (ino v) := fun x hx => hp x (by simp [ino, hx])
    have iu := isect_eq hq (t := u) hsu hl.2.1 hpu
    have iv := isect_eq hq (t := v) hsv hl.2.2 hpv
    have hm : meets O b e n.er = decide (icmp O b e n.kb n.ke = 0) := meets_icmp (n := n.er) hq hn
    have hsplit : (ino (.nd n u v)).any (meets O b e) = ((ino u).any (meets O b e) || (meets O b e n.er || (ino v).any (meets O b e))) := by simp [ino]
    rw [hsplit]
    by_cases h1 : icmp O b e n.kb n.ke = 0
    · rw [isect, if_pos h1, hm, decide_eq_true h1]; simp
    · have hm' : meets O b e n.er = false := by rw [hm]; exact decide_eq_false h1
      by_cases h2 : (match rmx u with | none => false | some m => decide (0 < O.cm m.2 b)) = true
      · rw [isect_l h1 h2, iu]
        cases hr : rmx u with
        | none => rw [hr] at h2; cases h2
        | some m =>
          rw [hr] at h2
          have h2' : 0 < O.cm m.2 b := of_decide_eq_true h2
          obtain ⟨x, hx, he⟩ := (mx_spec hl.2.1 m hr).2
          cases ha : (ino u).any (meets O b e) with
          | true => simp
          | false =>
            have hxm : meets O b e x = false := by
              have := List.any_eq_false.1 ha x hx
              simpa using this
            have hxm' := of_decide_eq_false hxm
            have h3 : O.cm b x.ke < 0 := by rw [he]; exact O.flip.2 h2'
            have h4 : O.cm e x.kb ≤ 0 := KO.le_of fun h => hxm' ⟨h, h3⟩
            have h5 : O.cm e n.kb ≤ 0 := O.trans h4 (hu x hx)
            have : (ino v).any (meets O b e) = false := List.any_eq_false.2 fun y hy => by rw [nmeet (.inl (O.trans h5 (hv y hy)))]; simp
            simp [hm', this]
      · rw [isect_r h1 h2, iv]
        have : (ino u).any (meets O b e) = false := List.any_eq_false.2 fun x hx => by
          cases hr : rmx u with
          | none => cases u with
            | lf => simp [ino] at hx
            | nd _ _ _ => cases hr
          | some m =>
            rw [hr] at h2
            have h2' : ¬ 0 < O.cm m.2 b := fun h => h2 (decide_eq_true h)
            have h3 := (mx_spec hl.2.1 m hr).1 x hx
            rw [nmeet (.inr (O.trans h3 (by omega)))]; simp
        simp [hm', this]
/-! ### What Contains means -/
def inI (O : KO K) (n : ND K) (x : K) : Prop := O.cm n.kb x ≤ 0 ∧ O.cm x n.ke < 0
/-- Each point of [b, e) lies in one of these. -/
def covers (O : KO K) (b e : K) (L : List (ND K)) : Prop := ∀ x, O.cm b x ≤ 0 → O.cm x e < 0 → ∃ n ∈ L, inI O n x
theorem step_er (s : CS K) (n : ND K) : s.step O n.er = s.step O n := rfl
theorem cont_run {b e : K} : ∀ (M : List (ND K)) (f m : Value × K), (∀ n ∈ M, O.cm n.kb e < 0) → M.Pairwise (fun x y => O.cm x.kb y.kb ≤ 0) →
    ((runV (CS.step O) M ⟨some (f, m), true⟩).1.yes O b e = true ↔ (∀ x, O.cm m.2 x ≤ 0 → O.cm x e < 0 → ∃ n ∈ M, inI O n x) ∧ O.cm f.2 b ≤ 0)
  | [], f, m, _, _ => by
    show (true && decide (0 ≤ O.cm m.2 e) && decide (O.cm f.2 b ≤ 0)) = true ↔ _
    have h1 := @KO.ge K O m.2 e
    constructor
    · intro h
      have h' : 0 ≤ O.cm m.2 e ∧ O.cm f.2 b ≤ 0 := by simpa using h
      exact ⟨fun x h2 h3 => absurd (h1.1 h'.1) (KO.not_le (KO.le_lt h2 h3)), h'.2⟩
    · rintro ⟨h2, h3⟩
      have : 0 ≤ O.cm m.2 e := by
        refine Decidable.byContradiction fun h => ?_
        obtain ⟨n, hn, _⟩ := h2 m.2 (by rw [O.refl]; exact Int.le_refl _) (by omega)
        cases hn
      simp [this, h3]
  | n :: M, f, m, hM, hP => by
    rw [List.pairwise_cons] at hP
    have hne := hM n (by simp)
    rw [runV]
    by_cases h : O.cm m.2 n.kb < 0
    · have e1 : (CS.mk (some (f, m)) true).step O n = (⟨some (f, m), false⟩, false) := by simp [CS.step, h]
      rw [e1]
      have e2 : ((CS.mk (some (f, m)) false : CS K).yes O b e) = false := by simp [CS.yes]
      simp only [Bool.false_eq_true, if_false, e2, false_iff]
      rintro ⟨h2, -⟩
      obtain ⟨y, hy, hy1, hy2⟩ := h2 m.2 (by rw [O.refl]; exact Int.le_refl _) (KO.lt_lt h hne)
      have : O.cm n.kb y.kb ≤ 0 := by
        rcases List.mem_cons.1 hy with rfl | hy
        · rw [O.refl]; exact Int.le_refl _
        · exact hP.1 y hy
      exact KO.not_le h (O.trans this hy1)
    · have e1 : (CS.mk (some (f, m)) true).step O n = (⟨some (f, if 0 < O.cm n.ke m.2 then (n.e, n.ke) else m), true⟩, true) := by simp [CS.step, h]
      rw [e1]
      simp only [if_true]
      have hnm := KO.le_of h
      have key : ∀ (m' : Value × K), O.cm m.2 m'.2 ≤ 0 → O.cm n.ke m'.2 ≤ 0 → (m'.2 = m.2 ∨ m'.2 = n.ke) →
          ((∀ x, O.cm m'.2 x ≤ 0 → O.cm x e < 0 → ∃ y ∈ M, inI O y x) ↔ (∀ x, O.cm m.2 x ≤ 0 → O.cm x e < 0 → ∃ y ∈ n :: M, inI O y x)) := by
        intro m' g1 g2 g3
        constructor
        · intro hc x hx1 hx2
          by_cases hx3 : O.cm x n.ke < 0
          · exact ⟨n, by simp, O.trans hnm hx1, hx3⟩
          · have : O.cm m'.2 x ≤ 0 := by
              rcases g3 with g3 | g3
              · rw [g3]; exact hx1
              · rw [g3]; exact KO.le_of hx3
            obtain ⟨y, hy, hi⟩ := hc x this hx2
            exact ⟨y, by simp [hy], hi⟩
        · intro hc x hx1 hx2
          obtain ⟨y, hy, hi⟩ := hc x (O.trans g1 hx1) hx2
          rcases List.mem_cons.1 hy with rfl | hy
          · exact absurd (O.trans g2 hx1) (KO.not_le hi.2)
          · exact ⟨y, hy, hi⟩
      rw [cont_run M f _ (fun y hy => hM y (by simp [hy])) hP.2]
      by_cases h5 : 0 < O.cm n.ke m.2
      · rw [if_pos h5]
        have := O.flip.2 h5
        rw [key (n.e, n.ke) (by show O.cm m.2 n.ke ≤ 0; omega) (by show O.cm n.ke n.ke ≤ 0; rw [O.refl]; exact Int.le_refl _) (.inr rfl)]
      · rw [if_neg h5, key m (by rw [O.refl]; exact Int.le_refl _) (by omega) (.inl rfl)]
theorem cont_iff {b e : K} (hq : O.cm b e < 0) {L : List (ND K)} (hs : srt O L) : (runV (CS.step O) (L.filter (meets O b e)) ⟨none, true⟩).1.yes O b e = true ↔ covers O b e L := by
  have hM : ∀ n ∈ L.filter (meets O b e), O.cm n.kb e < 0 ∧ O.cm b n.ke < 0 := fun n hn => of_decide_eq_true (List.mem_filter.1 hn).2
  have hP : (L.filter (meets O b e)).Pairwise (fun x y => O.cm x.kb y.kb ≤ 0) := (List.Pairwise.imp (fun h => not_bef h) (show L.Pairwise _ from hs)).filter _
  have hC : covers O b e L ↔ covers O b e (L.filter (meets O b e)) := by
    constructor
    · intro h x h1 h2
      obtain ⟨n, hn, hi⟩ := h x h1 h2
      exact ⟨n, List.mem_filter.2 ⟨hn, decide_eq_true ⟨KO.le_lt hi.1 h2, KO.le_lt h1 hi.2⟩⟩, hi⟩
    · intro h x h1 h2
      obtain ⟨n, hn, hi⟩ := h x h1 h2
      exact ⟨n, (List.mem_filter.1 hn).1, hi⟩
  rw [hC]
  generalize L.filter (meets O b e) = M at hM hP
  cases M with
  | nil =>
    constructor
    · intro h; cases h
    · intro h
      obtain ⟨n, hn, _⟩ := h b (by rw [O.refl]; exact Int.le_refl _) hq
      cases hn
  | cons n M =>
    rw [List.pairwise_cons] at hP
    have e1 : (CS.mk none true).step O n = (⟨some ((n.b, n.kb), (n.e, n.ke)), true⟩, true) := rfl
    rw [runV, e1]
    simp only [if_true]
    rw [cont_run M _ _ (fun y hy => (hM y (by simp [hy])).1) hP.2]
    constructor
    · rintro ⟨h1, h2⟩ x hx1 hx2
      by_cases hx3 : O.cm x n.ke < 0
      · exact ⟨n, by simp, O.trans h2 hx1, hx3⟩
      · obtain ⟨y, hy, hi⟩ := h1 x (KO.le_of hx3) hx2
        exact ⟨y, by simp [hy], hi⟩
    · intro h
      refine ⟨fun x hx1 hx2 => ?_, ?_⟩
      · have hx1' : O.cm n.ke x ≤ 0 := hx1
        have hb := (hM n (by simp)).2
        have : O.cm b x < 0 := KO.lt_le hb hx1'
        obtain ⟨y, hy, hi⟩ := h x (by omega) hx2
        rcases List.mem_cons.1 hy with rfl | hy
        · exact absurd hx1' (KO.not_le hi.2)
        · exact ⟨y, hy, hi⟩
      · obtain ⟨y, hy, hi⟩ := h b (by rw [O.refl]; exact Int.le_refl _) hq
        rcases List.mem_cons.1 hy with rfl | hy
        · exact hi.1
        · exact O.trans (hP.1 y hy) hi.1
end

end Go.Proofs.Ytlnihndjepjagaa
set_option linter.unusedVariables false
set_option linter.unusedSimpArgs false
namespace Go.Proofs.Ytlnihndjepjagaa
open Go Go.RowKit Gw
open Go.Value renaming int → vI, bool → vB, slice → vS, pointer → vP, agg → vA, tuple → vT

/-! ### A state of several pieces, as one -/
theorem Sat.ungrp {l m : List SP} {g : HP} (h : Sat (grp l :: m) g) : Sat (l ++ m) g := by
  obtain ⟨h1, k, s, t, d, a, r⟩ := h
  exact Sat.append.2 ⟨h1, k, s, t, d, a, r⟩
theorem Sat.grp_ {l m : List SP} {g : HP} (h : Sat (l ++ m) g) : Sat (grp l :: m) g := by
  obtain ⟨h1, k, s, t, d, a, r⟩ := Sat.append.1 h
  exact ⟨h1, k, s, t, d, a, r⟩
theorem Tri.regrp {P : Program} {f : FuncId} {args : Array Value} {R : HP} {A : SP} {L : List SP} {Q Q' : Value → List SP → Prop} (h : Tri P f args R (A :: L) Q)
    (hq : ∀ v q, Q v q → ∃ A' L', q = A' :: L' ∧ Q' v [A', grp L']) : Tri P f args R [A, grp L] Q' := fun w F hh => by
  have h1 : Holds w (ro R :: ((A :: L) ++ F)) := Sat.cons_map (fun _ x => Sat.cons_map (fun _ y => Sat.ungrp y) x) hh
  refine (h w F h1).mono fun e w' ⟨v, post, he, hv, s, k⟩ => ?_
  obtain ⟨A', L', rfl, hq'⟩ := hq v post hv
  refine ⟨v, _, he, hq', s, ?_⟩
  exact Sat.cons_map (fun _ x => Sat.cons_map (fun _ y => Sat.grp_ (l := L') y) x) k
/-- The piece of a visitor's state. -/
def vp {σ : Type} (P : σ → SP) (s : σ) : SP := P s
def csP {K : Type} (cb u6 u5 u7 : Nat) (s : CS K) : SP := grp [cl cb 279 [.func (.func 154) #[] #[pn u6, pn u5, pn u7]], cl u6 109 [s.f], cl u5 109 [s.m], cl u7 4 [.bool s.ok]]


set_option maxHeartbeats 1600000 in
theorem itStep0 (R : HP) (K : Type) (O : KO K) (u5 u6 u7 : Nat) (n : ND K) (l r p : Nat) (ok : Bool) (hn : NOk O R n) :
    Tri Try.prog 154 #[(vQ n.a), (vQ u6), (vQ u5), (vQ u7)] R [clf n.a 185 [n.b, n.e, n.v, n.mx, (vQ l), (vQ r), (vQ p), (vI .i64 n.c)], cl u6 109 [(Value.nilIface)], cl u5 109 [(Value.nilIface)], cl u7 4 [(vB ok)]] (fun v__ post__ => v__ = (vB true) ∧ post__ = [clf n.a 185 [n.b, n.e, n.v, n.mx, (vQ l), (vQ r), (vQ p), (vI .i64 n.c)], cl u6 109 [n.b], cl u5 109 [n.e], cl u7 4 [(vB ok)]]) := by
 refine Tri.into (n := 42) (al := [(vQ n.a), (vQ u6), (vQ u5), (vQ u7)]) Try.func154 rfl Try.ntmps154 rfl rfl fun w F H => ?_
 refine C_seq (fun K1_ hK1_ => C_reg ?_)
 refine sv (v := (vB false)) (x_assign rfl) ?_
 refine wpList_nil (X_then (hK1_ _ _ ?_))
 clear hK1_
 refine C_seq (fun K2_ hK2_ => ?_)
 refine C_seq (fun K3_ hK3_ => C_reg ?_)
 refine sv (v := (Value.nilIface)) (x_load1 rfl Try.underlying109 rfl ((Holds.rd H 2 rfl) 0 (Value.nilIface) rfl)) ?_
 refine sv (v := (vB true)) (by kernel_rfl) ?_
 refine wpList_nil (X_then (hK3_ _ _ ?_))
 clear hK3_
 refine C_condT rfl ?_
 refine C_seq (fun K4_ hK4_ => C_reg ?_)
 refine sv (v := (vQ n.a)) (x_move rfl) ?_
 refine sv (v := (vQ n.a)) (by kernel_rfl) ?_
 refine sv (v := (vQ n.a)) (by kernel_rfl) ?_
 refine sv (v := (vQ n.a)) (by kernel_rfl) ?_
 refine sv (v := n.b) (x_load1 rfl Try.underlying109 rfl ((Holds.rdf H 1 rfl) 0 n.b rfl)) ?_
 refine S_list0 (T_store1 (v := n.b) rfl rfl z109 (O.one hn.b) H 2 rfl (Nat.le_of_ble_eq_true (by rfl)) ?_)
 intro w5_ S7_ H6_
 have S8_ := Same.trans (Same.refl w) S7_
 refine wpList_nil (X_then (hK4_ _ _ ?_))
 clear hK4_
 refine C_seq (fun K9_ hK9_ => C_reg ?_)
 refine sv (v := (vQ n.a)) (x_move rfl) ?_
 refine sv (v := (vQ n.a)) (by kernel_rfl) ?_
 refine sv (v := (vQ n.a)) (by kernel_rfl) ?_
 refine sv (v := (vP (some ⟨n.a, 1, none⟩))) (by kernel_rfl) ?_
 refine sv (v := n.e) (x_load1 rfl Try.underlying109 rfl ((Holds.rdf H6_ 1 rfl) 1 n.e rfl)) ?_
 refine S_list0 (T_store1 (v := n.e) rfl rfl z109 (O.one hn.e) H6_ 3 rfl (Nat.le_of_ble_eq_true (by rfl)) ?_)
 intro w10_ S12_ H11_
 have S13_ := Same.trans S8_ S12_
 refine wpList_nil (X_then (hK9_ _ _ ?_))
 clear hK9_
 refine C_seq (fun K14_ hK14_ => C_reg ?_)
 refine sv (v := (vB true)) (x_assign rfl) ?_
 refine wpList_nil (X_then (hK14_ _ _ ?_))
 clear hK14_
 refine C_ret (X_thenR ?_)
 refine R_any (v := (vB true)) (run_results1 rfl rfl) ?_
 exact ⟨_, _, rfl, ⟨rfl, rfl⟩, S13_, H11_⟩

set_option maxHeartbeats 1600000 in
theorem itStep1 (R : HP) (K : Type) (O : KO K) (u5 u6 u7 : Nat) (n : ND K) (l r p : Nat) (ok : Bool) (ft mt : TypeId) (fv mv : Value) (km : K) (hn : NOk O R n) (hm : O.Val R (Value.iface mt mv) km) :
    Tri Try.prog 154 #[(vQ n.a), (vQ u6), (vQ u5), (vQ u7)] R [clf n.a 185 [n.b, n.e, n.v, n.mx, (vQ l), (vQ r), (vQ p), (vI .i64 n.c)], cl u6 109 [((Value.iface ft fv))], cl u5 109 [((Value.iface mt mv))], cl u7 4 [(vB ok)]] (fun v__ post__ => (v__ = (vB false) ∧ post__ = [clf n.a 185 [n.b, n.e, n.v, n.mx, (vQ l), (vQ r), (vQ p), (vI .i64 n.c)], cl u6 109 [((Value.iface ft fv))], cl u5 109 [((Value.iface mt mv))], cl u7 4 [(vB false)]] ∧ (O.cm km n.kb < 0)) ∨ (v__ = (vB true) ∧ post__ = [clf n.a 185 [n.b, n.e, n.v, n.mx, (vQ l), (vQ r), (vQ p), (vI .i64 n.c)], cl u6 109 [((Value.iface ft fv))], cl u5 109 [n.e], cl u7 4 [(vB ok)]] ∧ (¬ O.cm km n.kb < 0) ∧ (0 < O.cm n.ke km)) ∨ (v__ = (vB true) ∧ post__ = [clf n.a 185 [n.b, n.e, n.v, n.mx, (vQ l), (vQ r), (vQ p), (vI .i64 n.c)], cl u6 109 [((Value.iface ft fv))], cl u5 109 [((Value.iface mt mv))], cl u7 4 [(vB ok)]] ∧ (¬ O.cm km n.kb < 0) ∧ (¬ 0 < O.cm n.ke km))) := by
 refine Tri.into (n := 42) (al := [(vQ n.a), (vQ u6), (vQ u5), (vQ u7)]) Try.func154 rfl Try.ntmps154 rfl rfl fun w F H => ?_
 refine C_seq (fun K1_ hK1_ => C_reg ?_)
 refine sv (v := (vB false)) (x_assign rfl) ?_
 refine wpList_nil (X_then (hK1_ _ _ ?_))
 clear hK1_
 refine C_seq (fun K2_ hK2_ => ?_)
 refine C_seq (fun K3_ hK3_ => C_reg ?_)
 refine sv (v := ((Value.iface ft fv))) (x_load1 rfl Try.underlying109 rfl ((Holds.rd H 2 rfl) 0 ((Value.iface ft fv)) rfl)) ?_
 refine sv (v := (vB false)) (by kernel_rfl) ?_
 refine wpList_nil (X_then (hK3_ _ _ ?_))
 clear hK3_
 refine C_condF rfl ?_
 refine C_skip (X_then (hK2_ _ _ ?_))
 clear hK2_
 refine C_seq (fun K4_ hK4_ => ?_)
 refine C_seq (fun K5_ hK5_ => ?_)
 refine A_start (S := fun w => (Rd n.a [n.b, n.e, n.v, n.mx, (vQ l), (vQ r), (vQ p), (vI .i64 n.c)] w ∧ Blk w n.a) ∧ Rd u5 [((Value.iface mt mv))] w ∧ Sub R (hp w)) (N := 11) foll rfl rfl ?_
 have H6_ := Holds.drew_ H
 have hq7_ := And.intro ((And.intro (Holds.rdf H6_ 1 rfl) (Holds.blk H6_ 1 rfl))) (And.intro (Holds.rd H6_ 3 rfl) ((Holds.ro_at H6_ 0 rfl)))
 refine A_tk 0 (v := ((Value.iface mt mv))) rfl (by kernel_rfl) (fun w hS => x_load1 rfl Try.underlying109 rfl (hS.2.1 0 ((Value.iface mt mv)) rfl)) hq7_ ?_
 refine A_tk 1 (v := (vQ n.a)) rfl (by kernel_rfl) (fun w hS => x_move rfl) hq7_ ?_
 refine A_tk 2 (v := (vQ n.a)) rfl (by kernel_rfl) (fun w hS => by kernel_rfl) hq7_ ?_
 refine A_tk 3 (v := (vQ n.a)) rfl (by kernel_rfl) (fun w hS => by kernel_rfl) hq7_ ?_
 refine A_tk 4 (v := (vQ n.a)) rfl (by kernel_rfl) (fun w hS => by kernel_rfl) hq7_ ?_
 refine A_tk 5 (v := n.b) rfl (by kernel_rfl) (fun w hS => x_load1 rfl Try.underlying109 rfl (hS.1.1 0 n.b rfl)) hq7_ ?_
 refine A_tk 6 (v := ((Value.func (.method "Compare") #[((Value.iface mt mv))] #[]))) rfl (by kernel_rfl) (fun w hS => by kernel_rfl) hq7_ ?_
 refine A_tk 7 (v := ((Value.func (.method "Compare") #[((Value.iface mt mv))] #[]))) rfl (by kernel_rfl) (fun w hS => x_nilM rfl (O.cmp hm hm)) hq7_ ?_
 refine A_tk 8 (v := ((Value.iface mt mv))) rfl (by kernel_rfl) (fun w hS => x_move rfl) hq7_ ?_
 refine A_ready (i := 9) (rs := []) (by kernel_rfl) ?_
 refine AllR.cons ?_ AllR.nil
 refine A_op (ls' := #[true, true, true, true, true, true, true, true, true, true, false]) rfl (by kernel_rfl) (T_cmp rfl rfl (O.cmp hm hn.b) H6_ 0 rfl ?_)
 intro w8_ S10_ H9_
 have S11_ := Same.trans (Same.trans (Same.refl w) (Same.drew _)) S10_
 refine ⟨⟨(And.intro (Holds.rdf H9_ 1 rfl) (Holds.blk H9_ 1 rfl)), Holds.rd H9_ 3 rfl, (Holds.ro_at H9_ 0 rfl)⟩, ?_⟩
 have hq12_ := And.intro ((And.intro (Holds.rdf H9_ 1 rfl) (Holds.blk H9_ 1 rfl))) (And.intro (Holds.rd H9_ 3 rfl) ((Holds.ro_at H9_ 0 rfl)))
 refine A_tk 10 (v := (vB (decide (O.cm km n.kb < 0)))) rfl (by kernel_rfl) (fun w hS => x_bin rfl rfl rfl) hq12_ ?_
 refine A_done (by kernel_rfl) ?_
 refine (X_then (hK5_ _ _ ?_))
 clear hK5_
 refine C_cond (b := decide (O.cm km n.kb < 0)) rfl (fun c13_t => ?_) (fun c13_f => ?_)
 ·have c13_tp : O.cm km n.kb < 0 := of_decide_eq_true c13_t
  refine C_seq (fun K14_ hK14_ => C_reg ?_)
  refine S_list0 (T_store1 (v := (vB false)) rfl rfl z4 rfl H9_ 4 rfl (Nat.le_of_ble_eq_true (by rfl)) ?_)
  intro w15_ S17_ H16_
  have S18_ := Same.trans S11_ S17_
  refine wpList_nil (X_then (hK14_ _ _ ?_))
  clear hK14_
  refine C_seq (fun K19_ hK19_ => C_reg ?_)
  refine sv (v := (vB false)) (x_assign rfl) ?_
  refine wpList_nil (X_then (hK19_ _ _ ?_))
  clear hK19_
  refine C_ret (X_thenR ?_)
  refine R_any (v := (vB false)) (run_results1 rfl rfl) ?_
  exact ⟨_, _, rfl, (.inl ⟨rfl, rfl, (by first | assumption | omega | exact rfl)⟩), S18_, H16_⟩
 ·have c13_fp : ¬ (O.cm km n.kb < 0) := of_decide_eq_false c13_f
  refine C_skip (X_then (hK4_ _ _ ?_))
  clear hK4_
  refine C_seq (fun K20_ hK20_ => ?_)
  refine C_seq (fun K21_ hK21_ => ?_)
  refine A_start (S := fun w => (Rd n.a [n.b, n.e, n.v, n.mx, (vQ l), (vQ r), (vQ p), (vI .i64 n.c)] w ∧ Blk w n.a) ∧ Rd u5 [((Value.iface mt mv))] w ∧ Sub R (hp w)) (N := 8) foll rfl rfl ?_
  have H22_ := Holds.drew_ H9_
  have hq23_ := And.intro ((And.intro (Holds.rdf H22_ 1 rfl) (Holds.blk H22_ 1 rfl))) (And.intro (Holds.rd H22_ 3 rfl) ((Holds.ro_at H22_ 0 rfl)))
  refine A_tk 0 (v := (vQ n.a)) rfl (by kernel_rfl) (fun w hS => x_move rfl) hq23_ ?_
  refine A_tk 1 (v := (vQ n.a)) rfl (by kernel_rfl) (fun w hS => by kernel_rfl) hq23_ ?_
  refine A_tk 2 (v := (vQ n.a)) rfl (by kernel_rfl) (fun w hS => by kernel_rfl) hq23_ ?_
  refine A_tk 3 (v := (vP (some ⟨n.a, 1, none⟩))) rfl (by kernel_rfl) (fun w hS => by kernel_rfl) hq23_ ?_
  refine A_tk 4 (v := n.e) rfl (by kernel_rfl) (fun w hS => x_load1 rfl Try.underlying109 rfl (hS.1.1 1 n.e rfl)) hq23_ ?_
  refine A_tk 5 (v := ((Value.iface mt mv))) rfl (by kernel_rfl) (fun w hS => x_load1 rfl Try.underlying109 rfl (hS.2.1 0 ((Value.iface mt mv)) rfl)) hq23_ ?_
  refine A_ready (i := 6) (rs := []) (by kernel_rfl) ?_
  refine AllR.cons ?_ AllR.nil
  refine A_op (ls' := #[true, true, true, true, true, true, true, false]) rfl (by kernel_rfl) (T_cmp rfl rfl (O.cmp hn.e hm) H22_ 0 rfl ?_)
  intro w24_ S26_ H25_
  have S27_ := Same.trans (Same.trans S11_ (Same.drew _)) S26_
  refine ⟨⟨(And.intro (Holds.rdf H25_ 1 rfl) (Holds.blk H25_ 1 rfl)), Holds.rd H25_ 3 rfl, (Holds.ro_at H25_ 0 rfl)⟩, ?_⟩
  have hq28_ := And.intro ((And.intro (Holds.rdf H25_ 1 rfl) (Holds.blk H25_ 1 rfl))) (And.intro (Holds.rd H25_ 3 rfl) ((Holds.ro_at H25_ 0 rfl)))
  refine A_tk 7 (v := (vB (decide (0 < O.cm n.ke km)))) rfl (by kernel_rfl) (fun w hS => x_bin rfl rfl rfl) hq28_ ?_
  refine A_done (by kernel_rfl) ?_
  refine (X_then (hK21_ _ _ ?_))
  clear hK21_
  refine C_cond (b := decide (0 < O.cm n.ke km)) rfl (fun c29_t => ?_) (fun c29_f => ?_)
  ·have c29_tp : 0 < O.cm n.ke km := of_decide_eq_true c29_t
   refine C_reg ?_
   refine sv (v := (vQ n.a)) (x_move rfl) ?_
   refine sv (v := (vQ n.a)) (by kernel_rfl) ?_
   refine sv (v := (vQ n.a)) (by kernel_rfl) ?_
   refine sv (v := (vP (some ⟨n.a, 1, none⟩))) (by kernel_rfl) ?_
   refine sv (v := n.e) (x_load1 rfl Try.underlying109 rfl ((Holds.rdf H25_ 1 rfl) 1 n.e rfl)) ?_
   refine S_list0 (T_store1 (v := n.e) rfl rfl z109 (O.one hn.e) H25_ 3 rfl (Nat.le_of_ble_eq_true (by rfl)) ?_)
   intro w30_ S32_ H31_
   have S33_ := Same.trans S27_ S32_
   refine wpList_nil (X_then (hK20_ _ _ ?_))
   clear hK20_
   refine C_seq (fun K34_ hK34_ => C_reg ?_)
   refine sv (v := (vB true)) (x_assign rfl) ?_
   refine wpList_nil (X_then (hK34_ _ _ ?_))
   clear hK34_
   refine C_ret ?_
   refine R_any (v := (vB true)) (run_results1 rfl rfl) ?_
   exact ⟨_, _, rfl, (.inr (.inl ⟨rfl, rfl, (by first | assumption | omega | exact rfl), (by first | assumption | omega | exact rfl)⟩)), S33_, H31_⟩
  ·have c29_fp : ¬ (0 < O.cm n.ke km) := of_decide_eq_false c29_f
   refine C_skip (X_then (hK20_ _ _ ?_))
   clear hK20_
   refine C_seq (fun K35_ hK35_ => C_reg ?_)
   refine sv (v := (vB true)) (x_assign rfl) ?_
   refine wpList_nil (X_then (hK35_ _ _ ?_))
   clear hK35_
   refine C_ret ?_
   refine R_any (v := (vB true)) (run_results1 rfl rfl) ?_
   exact ⟨_, _, rfl, (.inr (.inr ⟨rfl, rfl, (by first | assumption | omega | exact rfl), (by first | assumption | omega | exact rfl)⟩)), S27_, H25_⟩
end Go.Proofs.Ytlnihndjepjagaa
set_option linter.unusedVariables false
set_option linter.unusedSimpArgs false
namespace Go.Proofs.Ytlnihndjepjagaa
open Go Go.RowKit Gw
open Go.Value renaming int → vI, bool → vB, slice → vS, pointer → vP, agg → vA, tuple → vT

set_option maxHeartbeats 1600000 in
theorem itStepV0 (R : HP) (K : Type) (O : KO K) (cb u6 u5 u7 : Nat) (n : ND K) (l r p : Nat) (ok : Bool) (hn : NOk O R n) :
    Tri Try.prog 168 #[(vQ n.a), (vQ cb)] R [clf n.a 185 [n.b, n.e, n.v, n.mx, (vQ l), (vQ r), (vQ p), (vI .i64 n.c)], cl cb 279 [(Value.func (.func 154) #[] #[(vQ u6), (vQ u5), (vQ u7)])], cl u6 109 [(Value.nilIface)], cl u5 109 [(Value.nilIface)], cl u7 4 [(vB ok)]] (fun v__ post__ => v__ = (vB true) ∧ post__ = [clf n.a 185 [n.b, n.e, n.v, n.mx, (vQ l), (vQ r), (vQ p), (vI .i64 n.c)], cl cb 279 [(Value.func (.func 154) #[] #[(vQ u6), (vQ u5), (vQ u7)])], cl u6 109 [n.b], cl u5 109 [n.e], cl u7 4 [(vB ok)]]) := by
 refine Tri.into (n := 9) (al := [(vQ n.a), (vQ cb)]) Try.func168 rfl Try.ntmps168 rfl rfl fun w F H => ?_
 refine C_seq (fun K1_ hK1_ => C_reg ?_)
 refine sv (v := (vB false)) (x_assign rfl) ?_
 refine wpList_nil (X_then (hK1_ _ _ ?_))
 clear hK1_
 refine C_seq (fun K2_ hK2_ => ?_)
 refine A_start (S := fun w => (Rd n.a [n.b, n.e, n.v, n.mx, (vQ l), (vQ r), (vQ p), (vI .i64 n.c)] w ∧ Blk w n.a) ∧ Rd cb [(Value.func (.func 154) #[] #[(vQ u6), (vQ u5), (vQ u7)])] w ∧ Rd u7 [(vB ok)] w ∧ Sub R (hp w)) (N := 6) foll rfl rfl ?_
 have H3_ := Holds.drew_ H
 have hq4_ := And.intro ((And.intro (Holds.rdf H3_ 1 rfl) (Holds.blk H3_ 1 rfl))) (And.intro (Holds.rd H3_ 2 rfl) (And.intro (Holds.rd H3_ 5 rfl) ((Holds.ro_at H3_ 0 rfl))))
 refine A_tk 0 (v := (Value.func (.func 154) #[] #[(vQ u6), (vQ u5), (vQ u7)])) rfl (by kernel_rfl) (fun w hS => x_load1 rfl Try.underlying279 rfl (hS.2.1 0 (Value.func (.func 154) #[] #[(vQ u6), (vQ u5), (vQ u7)]) rfl)) hq4_ ?_
 refine A_tk 1 (v := (vQ n.a)) rfl (by kernel_rfl) (fun w hS => x_move rfl) hq4_ ?_
 refine A_tk 2 (v := (vQ n.a)) rfl (by kernel_rfl) (fun w hS => by kernel_rfl) hq4_ ?_
 refine A_tk 3 (v := (vQ n.a)) rfl (by kernel_rfl) (fun w hS => by kernel_rfl) hq4_ ?_
 refine A_ready (i := 4) (rs := []) (by kernel_rfl) ?_
 refine AllR.cons ?_ AllR.nil
 have H6_ := ((Holds.bring (Holds.bring (Holds.bring (Holds.bring (Holds.bring H3_ 5 rfl) 5 rfl) 5 rfl) 4 rfl) 4 rfl) :)
 refine A_op (ls' := #[true, true, true, true, true, false]) rfl (by kernel_rfl) (T_call (al := [(vQ n.a), (vQ u6), (vQ u5), (vQ u7)]) (pre := [clf n.a 185 [n.b, n.e, n.v, n.mx, (vQ l), (vQ r), (vQ p), (vI .i64 n.c)], cl u6 109 [(Value.nilIface)], cl u5 109 [(Value.nilIface)], cl u7 4 [(vB ok)]]) rfl rfl cb154 (itStep0 R K O u5 u6 u7 n l r p ok (by first | assumption | omega)) H6_ ?_)
 rintro v5_ p10_ w7_ ⟨rfl, rfl⟩ S9_ H8_
 have S11_ := Same.trans (Same.trans (Same.refl w) (Same.drew _)) S9_
 refine ⟨⟨(And.intro (Holds.rdf H8_ 1 rfl) (Holds.blk H8_ 1 rfl)), Holds.rd H8_ 5 rfl, Holds.rd H8_ 4 rfl, (Holds.ro_at H8_ 0 rfl)⟩, ?_⟩
 have hq12_ := And.intro ((And.intro (Holds.rdf H8_ 1 rfl) (Holds.blk H8_ 1 rfl))) (And.intro (Holds.rd H8_ 5 rfl) (And.intro (Holds.rd H8_ 4 rfl) ((Holds.ro_at H8_ 0 rfl))))
 refine A_tk 5 (v := (vB true)) rfl (by kernel_rfl) (fun w hS => x_assign rfl) hq12_ ?_
 refine A_done (by kernel_rfl) ?_
 refine (X_then (hK2_ _ _ ?_))
 clear hK2_
 refine C_ret ?_
 refine R_any (v := (vB true)) (run_results1 rfl rfl) ?_
 have H13_ : Holds w7_ (ro R :: clf n.a 185 [n.b, n.e, n.v, n.mx, (vQ l), (vQ r), (vQ p), (vI .i64 n.c)] :: cl cb 279 [(Value.func (.func 154) #[] #[(vQ u6), (vQ u5), (vQ u7)])] :: cl u6 109 [n.b] :: cl u5 109 [n.e] :: cl u7 4 [(vB ok)] :: F) := (Holds.pkF H8_ [0, 0, 3, 0, 0, 0] 0 :)
 exact ⟨_, _, rfl, ⟨rfl, rfl⟩, S11_, H13_⟩

set_option maxHeartbeats 1600000 in
theorem itStepV1 (R : HP) (K : Type) (O : KO K) (cb u6 u5 u7 : Nat) (n : ND K) (l r p : Nat) (ok : Bool) (ft mt : TypeId) (fv mv : Value) (km : K) (hn : NOk O R n) (hm : O.Val R (Value.iface mt mv) km) :
    Tri Try.prog 168 #[(vQ n.a), (vQ cb)] R [clf n.a 185 [n.b, n.e, n.v, n.mx, (vQ l), (vQ r), (vQ p), (vI .i64 n.c)], cl cb 279 [(Value.func (.func 154) #[] #[(vQ u6), (vQ u5), (vQ u7)])], cl u6 109 [((Value.iface ft fv))], cl u5 109 [((Value.iface mt mv))], cl u7 4 [(vB ok)]] (fun v__ post__ => (v__ = (vB false) ∧ post__ = [clf n.a 185 [n.b, n.e, n.v, n.mx, (vQ l), (vQ r), (vQ p), (vI .i64 n.c)], cl cb 279 [(Value.func (.func 154) #[] #[(vQ u6), (vQ u5), (vQ u7)])], cl u6 109 [((Value.iface ft fv))], cl u5 109 [((Value.iface mt mv))], cl u7 4 [(vB false)]] ∧ (O.cm km n.kb < 0)) ∨ (v__ = (vB true) ∧ post__ = [clf n.a 185 [n.b, n.e, n.v, n.mx, (vQ l), (vQ r), (vQ p), (vI .i64 n.c)], cl cb 279 [(Value.func (.func 154) #[] #[(vQ u6), (vQ u5), (vQ u7)])], cl u6 109 [((Value.iface ft fv))], cl u5 109 [n.e], cl u7 4 [(vB ok)]] ∧ (¬ O.cm km n.kb < 0) ∧ (0 < O.cm n.ke km)) ∨ (v__ = (vB true) ∧ post__ = [clf n.a 185 [n.b, n.e, n.v, n.mx, (vQ l), (vQ r), (vQ p), (vI .i64 n.c)], cl cb 279 [(Value.func (.func 154) #[] #[(vQ u6), (vQ u5), (vQ u7)])], cl u6 109 [((Value.iface ft fv))], cl u5 109 [((Value.iface mt mv))], cl u7 4 [(vB ok)]] ∧ (¬ O.cm km n.kb < 0) ∧ (¬ 0 < O.cm n.ke km))) := by
 refine Tri.into (n := 9) (al := [(vQ n.a), (vQ cb)]) Try.func168 rfl Try.ntmps168 rfl rfl fun w F H => ?_
 refine C_seq (fun K1_ hK1_ => C_reg ?_)
 refine sv (v := (vB false)) (x_assign rfl) ?_
 refine wpList_nil (X_then (hK1_ _ _ ?_))
 clear hK1_
 refine C_seq (fun K2_ hK2_ => ?_)
 refine A_start (S := fun w => (Rd n.a [n.b, n.e, n.v, n.mx, (vQ l), (vQ r), (vQ p), (vI .i64 n.c)] w ∧ Blk w n.a) ∧ Rd cb [(Value.func (.func 154) #[] #[(vQ u6), (vQ u5), (vQ u7)])] w ∧ Rd u6 [((Value.iface ft fv))] w ∧ Sub R (hp w)) (N := 6) foll rfl rfl ?_
 have H3_ := Holds.drew_ H
 have hq4_ := And.intro ((And.intro (Holds.rdf H3_ 1 rfl) (Holds.blk H3_ 1 rfl))) (And.intro (Holds.rd H3_ 2 rfl) (And.intro (Holds.rd H3_ 3 rfl) ((Holds.ro_at H3_ 0 rfl))))
 refine A_tk 0 (v := (Value.func (.func 154) #[] #[(vQ u6), (vQ u5), (vQ u7)])) rfl (by kernel_rfl) (fun w hS => x_load1 rfl Try.underlying279 rfl (hS.2.1 0 (Value.func (.func 154) #[] #[(vQ u6), (vQ u5), (vQ u7)]) rfl)) hq4_ ?_
 refine A_tk 1 (v := (vQ n.a)) rfl (by kernel_rfl) (fun w hS => x_move rfl) hq4_ ?_
 refine A_tk 2 (v := (vQ n.a)) rfl (by kernel_rfl) (fun w hS => by kernel_rfl) hq4_ ?_
 refine A_tk 3 (v := (vQ n.a)) rfl (by kernel_rfl) (fun w hS => by kernel_rfl) hq4_ ?_
 refine A_ready (i := 4) (rs := []) (by kernel_rfl) ?_
 refine AllR.cons ?_ AllR.nil
 have H11_ := ((Holds.bring (Holds.bring (Holds.bring (Holds.bring (Holds.bring H3_ 5 rfl) 5 rfl) 5 rfl) 4 rfl) 4 rfl) :)
 refine A_op (ls' := #[true, true, true, true, true, false]) rfl (by kernel_rfl) (T_call (al := [(vQ n.a), (vQ u6), (vQ u5), (vQ u7)]) (pre := [clf n.a 185 [n.b, n.e, n.v, n.mx, (vQ l), (vQ r), (vQ p), (vI .i64 n.c)], cl u6 109 [((Value.iface ft fv))], cl u5 109 [((Value.iface mt mv))], cl u7 4 [(vB ok)]]) rfl rfl cb154 (itStep1 R K O u5 u6 u7 n l r p ok ft mt fv mv km (by first | assumption | omega) (by first | assumption | omega)) H11_ ?_)
 rintro v5_ p15_ w12_ hq16_ S14_ H13_
 rcases hq16_ with ⟨rfl, rfl, he6_⟩ | ⟨rfl, rfl, he7_, he8_⟩ | ⟨rfl, rfl, he9_, he10_⟩
 ·skip
  have S17_ := Same.trans (Same.trans (Same.refl w) (Same.drew _)) S14_
  refine ⟨⟨(And.intro (Holds.rdf H13_ 1 rfl) (Holds.blk H13_ 1 rfl)), Holds.rd H13_ 5 rfl, Holds.rd H13_ 2 rfl, (Holds.ro_at H13_ 0 rfl)⟩, ?_⟩
  have hq20_ := And.intro ((And.intro (Holds.rdf H13_ 1 rfl) (Holds.blk H13_ 1 rfl))) (And.intro (Holds.rd H13_ 5 rfl) (And.intro (Holds.rd H13_ 2 rfl) ((Holds.ro_at H13_ 0 rfl))))
  refine A_tk 5 (v := (vB false)) rfl (by kernel_rfl) (fun w hS => x_assign rfl) hq20_ ?_
  refine A_done (by kernel_rfl) ?_
  refine (X_then (hK2_ _ _ ?_))
  clear hK2_
  refine C_ret ?_
  refine R_any (v := (vB false)) (run_results1 rfl rfl) ?_
  have H21_ : Holds w12_ (ro R :: clf n.a 185 [n.b, n.e, n.v, n.mx, (vQ l), (vQ r), (vQ p), (vI .i64 n.c)] :: cl cb 279 [(Value.func (.func 154) #[] #[(vQ u6), (vQ u5), (vQ u7)])] :: cl u6 109 [((Value.iface ft fv))] :: cl u5 109 [((Value.iface mt mv))] :: cl u7 4 [(vB false)] :: F) := (Holds.pkF H13_ [0, 0, 3, 0, 0, 0] 0 :)
  exact ⟨_, _, rfl, (.inl ⟨rfl, rfl, (by first | assumption | omega | exact rfl)⟩), S17_, H21_⟩
 ·skip
  have S18_ := Same.trans (Same.trans (Same.refl w) (Same.drew _)) S14_
  refine ⟨⟨(And.intro (Holds.rdf H13_ 1 rfl) (Holds.blk H13_ 1 rfl)), Holds.rd H13_ 5 rfl, Holds.rd H13_ 2 rfl, (Holds.ro_at H13_ 0 rfl)⟩, ?_⟩
  have hq22_ := And.intro ((And.intro (Holds.rdf H13_ 1 rfl) (Holds.blk H13_ 1 rfl))) (And.intro (Holds.rd H13_ 5 rfl) (And.intro (Holds.rd H13_ 2 rfl) ((Holds.ro_at H13_ 0 rfl))))
  refine A_tk 5 (v := (vB true)) rfl (by kernel_rfl) (fun w hS => x_assign rfl) hq22_ ?_
  refine A_done (by kernel_rfl) ?_
  refine (X_then (hK2_ _ _ ?_))
  clear hK2_
  refine C_ret ?_
  refine R_any (v := (vB true)) (run_results1 rfl rfl) ?_
  have H23_ : Holds w12_ (ro R :: clf n.a 185 [n.b, n.e, n.v, n.mx, (vQ l), (vQ r), (vQ p), (vI .i64 n.c)] :: cl cb 279 [(Value.func (.func 154) #[] #[(vQ u6), (vQ u5), (vQ u7)])] :: cl u6 109 [((Value.iface ft fv))] :: cl u5 109 [n.e] :: cl u7 4 [(vB ok)] :: F) := (Holds.pkF H13_ [0, 0, 3, 0, 0, 0] 0 :)
  exact ⟨_, _, rfl, (.inr (.inl ⟨rfl, rfl, (by first | assumption | omega | exact rfl), (by first | assumption | omega | exact rfl)⟩)), S18_, H23_⟩
 ·skip
  have S19_ := Same.trans (Same.trans (Same.refl w) (Same.drew _)) S14_
  refine ⟨⟨(And.intro (Holds.rdf H13_ 1 rfl) (Holds.blk H13_ 1 rfl)), Holds.rd H13_ 5 rfl, Holds.rd H13_ 2 rfl, (Holds.ro_at H13_ 0 rfl)⟩, ?_⟩
  have hq24_ := And.intro ((And.intro (Holds.rdf H13_ 1 rfl) (Holds.blk H13_ 1 rfl))) (And.intro (Holds.rd H13_ 5 rfl) (And.intro (Holds.rd H13_ 2 rfl) ((Holds.ro_at H13_ 0 rfl))))
  refine A_tk 5 (v := (vB true)) rfl (by kernel_rfl) (fun w hS => x_assign rfl) hq24_ ?_
  refine A_done (by kernel_rfl) ?_
  refine (X_then (hK2_ _ _ ?_))
  clear hK2_
  refine C_ret ?_
  refine R_any (v := (vB true)) (run_results1 rfl rfl) ?_
  have H25_ : Holds w12_ (ro R :: clf n.a 185 [n.b, n.e, n.v, n.mx, (vQ l), (vQ r), (vQ p), (vI .i64 n.c)] :: cl cb 279 [(Value.func (.func 154) #[] #[(vQ u6), (vQ u5), (vQ u7)])] :: cl u6 109 [((Value.iface ft fv))] :: cl u5 109 [((Value.iface mt mv))] :: cl u7 4 [(vB ok)] :: F) := (Holds.pkF H13_ [0, 0, 3, 0, 0, 0] 0 :)
  exact ⟨_, _, rfl, (.inr (.inr ⟨rfl, rfl, (by first | assumption | omega | exact rfl), (by first | assumption | omega | exact rfl)⟩)), S19_, H25_⟩

section
variable {K : Type} {O : KO K}
theorem itStepV (R : HP) (cb u6 u5 u7 : Nat) (s : CS K) (n : ND K) (l r p : Nat) (hi : CS.Ok O R s) (hn : NOk O R n) :
    Tri Try.prog 168 #[pn n.a, pn cb] R [clf n.a 185 (n.cells l r p), vp (csP cb u6 u5 u7) s] fun v post =>
      v = .bool (s.step O n).2 ∧ post = [clf n.a 185 (n.cells l r p), vp (csP cb u6 u5 u7) (s.step O n).1] ∧ (CS.Ok O R (s.step O n).1) := by
  obtain ⟨fm, ok⟩ := s
  rcases fm with _ | ⟨⟨fv, fk⟩, ⟨mv, mk⟩⟩
  · refine Tri.regrp (itStepV0 R K O cb u6 u5 u7 n l r p ok hn) fun v q h => ?_
    obtain ⟨rfl, rfl⟩ := h
    exact ⟨_, _, rfl, rfl, rfl, fun x hx => by cases hx; exact ⟨hn.b, hn.e⟩⟩
  · obtain ⟨hf, hm⟩ := hi _ rfl
    obtain ⟨ft, fx, _, ef, _⟩ := O.cmp hf hf
    obtain ⟨mt, mx, _, em, _⟩ := O.cmp hm hm
    subst ef
    subst em
    refine Tri.regrp (itStepV1 R K O cb u6 u5 u7 n l r p ok ft mt fx mx mk hn hm) fun v q h => ?_
    rcases h with ⟨rfl, rfl, h1⟩ | ⟨rfl, rfl, h1, h2⟩ | ⟨rfl, rfl, h1, h2⟩
    · have e1 : (CS.mk (some ((.iface ft fx, fk), (.iface mt mx, mk))) ok).step O n = (⟨some ((.iface ft fx, fk), (.iface mt mx, mk)), false⟩, false) := by simp [CS.step, h1]
      rw [e1]
      exact ⟨_, _, rfl, rfl, rfl, fun x hx => by cases hx; exact ⟨hf, hm⟩⟩
    · have e1 : (CS.mk (some ((.iface ft fx, fk), (.iface mt mx, mk))) ok).step O n = (⟨some ((.iface ft fx, fk), (n.e, n.ke)), ok⟩, true) := by simp [CS.step, h1, h2]
      rw [e1]
      exact ⟨_, _, rfl, rfl, rfl, fun x hx => by cases hx; exact ⟨hf, hn.e⟩⟩
    · have e1 : (CS.mk (some ((.iface ft fx, fk), (.iface mt mx, mk))) ok).step O n = (⟨some ((.iface ft fx, fk), (.iface mt mx, mk)), ok⟩, true) := by simp [CS.step, h1, h2]
      rw [e1]
      exact ⟨_, _, rfl, rfl, rfl, fun x hx => by cases hx; exact ⟨hf, hm⟩⟩
end

end Go.Proofs.Ytlnihndjepjagaa
