/- What holds at a number, of lives that are ours. -/
import Derived.Test.YtiblemgccgbhoaaKyU0
set_option linter.unusedVariables false
set_option linter.unusedSimpArgs false
namespace Go.Proofs.Ytiblemgccgbhoaa
open Go Go.RowKit Gw

theorem kGet (R : HP) (kb : Nat) (ka : Option Addr) (kl kc : Nat) (m n : Int) (gv lv : Value) (N0 T : List GN) (ll : List RV) (at_ : Int) (hT : Tlk T lv ll) (hN : ∀ x ∈ N0, GOk R x) (hb1 : (N0 ++ T).length ≤ 100000) (hb2 : ∀ x ∈ N0 ++ T, x.l.length ≤ 100000) (hne : ∀ x, N0 ++ T = [x] → ¬ x.l.length = 0) (hbv : ∀ x ∈ N0 ++ T, 0 ≤ x.ver ∧ x.ver ≤ 1000000) :
    Tri Try.prog 58 #[(Value.pointer (some ⟨kb, 0, none⟩)), (Value.pointer none), (Value.int .i64 at_)] R [sl 106 4 gv (List.length (N0 ++ T)) ((N0 ++ T).flatMap GN.cells), sl 58 2 lv (List.length ll) (ll.flatMap RV.cells), cl kb 104 [(Value.slice ka kl kc), (Value.int .i64 m), (Value.int .i64 n), gv]] (fun v__ post__ => (v__ = (Value.tuple #[(Value.agg #[(Value.int .i64 0), (Value.int .i64 0)]), (Value.agg #[(Value.int .i64 0), (Value.int .i64 0)]), (Value.int .i64 0), (Value.iface 122 (Value.string (ByteArray.mk #[109, 118, 99, 99, 58, 32, 114, 101, 118, 105, 115, 105, 111, 110, 32, 110, 111, 116, 32, 102, 111, 117, 110, 100])))]) ∧ post__ = [sl 106 4 gv (List.length (N0 ++ T)) ((N0 ++ T).flatMap GN.cells), sl 58 2 lv (List.length ll) (ll.flatMap RV.cells), cl kb 104 [(Value.slice ka kl kc), (Value.int .i64 m), (Value.int .i64 n), gv]] ∧ (iGet ((N0 ++ T).map GN.m) at_ = none)) ∨ (∃ (a b c d e : Int), v__ = (Value.tuple #[(Value.agg #[(Value.int .i64 a), (Value.int .i64 b)]), (Value.agg #[(Value.int .i64 c), (Value.int .i64 d)]), (Value.int .i64 e), (Value.nilIface)]) ∧ post__ = [sl 106 4 gv (List.length (N0 ++ T)) ((N0 ++ T).flatMap GN.cells), sl 58 2 lv (List.length ll) (ll.flatMap RV.cells), cl kb 104 [(Value.slice ka kl kc), (Value.int .i64 m), (Value.int .i64 n), gv]] ∧ (iGet ((N0 ++ T).map GN.m) at_ = some (a, b, c, d, e)))) := by
  refine (Tri.lend (fun h0 a0 d0 => Tri.lend (fun h1 a1 d1 => kGetR (un (un R h0) h1) kb ka kl kc m n gv (N0 ++ T) at_ ((sl_RS a0 (Sub.un_right d0)).mono (Sub.un_left _ _)) (GOk_app hN (Sub.trans' (Sub.un_left R h0) (Sub.un_left _ h1)) hT (sl_RS a1 (Sub.un_right d1))) hb1 hb2 hne hbv))).mono fun v post h => ?_
  obtain ⟨p1, rfl, p2, rfl, h⟩ := h
  rcases h with ⟨rfl, rfl, h⟩ | ⟨a, b, c, d, e, rfl, rfl, h⟩
  · exact .inl ⟨rfl, rfl, h⟩
  · exact .inr ⟨_, _, _, _, _, rfl, rfl, h⟩
end Go.Proofs.Ytiblemgccgbhoaa
