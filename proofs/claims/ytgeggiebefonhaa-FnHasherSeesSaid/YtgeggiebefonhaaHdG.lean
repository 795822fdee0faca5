/- Two hashes that differ. -/
import Derived.Test.YtgeggiebefonhaaHdF0
set_option linter.unusedVariables false
set_option linter.unusedSimpArgs false
namespace Go.Proofs.Ytgeggiebefonhaa
open Go Go.RowKit Gw
def row1 : RW := ⟨2, 0, false, ByteArray.mk #[107], ByteArray.mk #[118], 2, 2, 1, 0⟩
theorem row1_vb : row1.vb = [10, 1, 107, 16, 2, 24, 2, 32, 1, 42, 1, 118] := by
  have e1 : row1.ks = [107] := rfl
  have e2 : row1.vs = [118] := rfl
  have w : ∀ n : Nat, n < 128 → vint n = [(n : Int)] := fun n h => by rw [vint_lt h, wrap_u8]; congr 1; omega
  have u : ∀ n : Nat, n < 128 → vi (n : Int) = [(n : Int)] := fun n h => by unfold vi; rw [wrap_u64]; rw [show ((n : Int) % 18446744073709551616).toNat = n by omega]; exact w n h
  have h0 := u 0 (by omega); have h1 := u 1 (by omega); have h2 := u 2 (by omega)
  unfold RW.vb kvb
  rw [e1, e2]
  simp only [pbyt, pint, row1, List.length_cons, List.length_nil]
  simp only [w 10 (by omega), w 16 (by omega), w 24 (by omega), w 32 (by omega), w 42 (by omega), Nat.reduceMul, Nat.reduceAdd]
  simp at h1 h2 ⊢
  simp [h1, h2]
theorem hash_two : hash (-1) 9 [] [row1] ≠ hash (-1) 9 [] [] := by
  have hc : hcnt (-1) 9 [] row1 := ⟨by decide, .inl (by decide), by decide⟩
  have e : hash (-1) 9 [] [row1] = crc (crc hzero row1.kb) row1.vb := by
    show hstep (-1) 9 [] hzero row1 = _
    unfold hstep; rw [if_pos hc]
  rw [e, row1_vb]
  show crc (crc hzero row1.kb) [10, 1, 107, 16, 2, 24, 2, 32, 1, 42, 1, 118] ≠ hzero
  decide +kernel
end Go.Proofs.Ytgeggiebefonhaa
