/- One byte that is another one makes the sum another one. -/
import Derived.Test.YtgeggiebefonhaaHcC0
set_option linter.unusedVariables false
set_option linter.unusedSimpArgs false
namespace Go.Proofs.Ytgeggiebefonhaa
open Go Go.RowKit Gw
def U32 (n : Int) : Prop := 0 ≤ n ∧ n < 4294967296
theorem wrap_u32 (x : Int) : IntKind.u32.wrap x = x % 4294967296 := by
  have e1 : (2 : Int) ^ 32 = 4294967296 := by decide
  simp [IntKind.wrap, IntKind.bits, IntKind.signed, e1]
theorem ixor_nat {a b : Nat} (ha : a < 4294967296) (hb : b < 4294967296) : ixor .u32 (a : Int) (b : Int) = ((a ^^^ b : Nat) : Int) := by
  have hx : a ^^^ b < 4294967296 := Nat.xor_lt_two_pow (n := 32) ha hb
  unfold ixor
  have e : ((BitVec.ofInt 32 (a : Int) ^^^ BitVec.ofInt 32 (b : Int)).toNat) = a ^^^ b := by
    rw [BitVec.toNat_xor, BitVec.ofInt_natCast, BitVec.ofInt_natCast, BitVec.toNat_ofNat, BitVec.toNat_ofNat, Nat.mod_eq_of_lt (by omega), Nat.mod_eq_of_lt (by omega)]
  show IntKind.u32.wrap (((BitVec.ofInt 32 (a : Int) ^^^ BitVec.ofInt 32 (b : Int)).toNat : Nat) : Int) = _
  rw [e, wrap_u32]; omega
theorem iand_one {a : Nat} (ha : a < 4294967296) : iand .u32 (a : Int) 1 = ((a % 2 : Nat) : Int) := by
  unfold iand
  have e : ((BitVec.ofInt 32 (a : Int) &&& BitVec.ofInt 32 (1 : Int)).toNat) = a % 2 := by
    have h1 : BitVec.ofInt 32 (1 : Int) = BitVec.ofNat 32 1 := rfl
    rw [BitVec.toNat_and, BitVec.ofInt_natCast, h1, BitVec.toNat_ofNat, BitVec.toNat_ofNat, Nat.mod_eq_of_lt (by omega), Nat.mod_eq_of_lt (by omega), Nat.and_one_is_mod]
  show IntKind.u32.wrap (((BitVec.ofInt 32 (a : Int) &&& BitVec.ofInt 32 (1 : Int)).toNat : Nat) : Int) = _
  rw [e, wrap_u32]; omega
theorem nat_of {n : Int} (h : U32 n) : ∃ a : Nat, n = a ∧ a < 4294967296 := ⟨n.toNat, by have := h.1; omega, by have := h.2; omega⟩
theorem cstep_nat {a : Nat} (ha : a < 4294967296) : cstep (a : Int) = (((if a % 2 = 1 then (a / 2) ^^^ 2197175160 else a / 2) : Nat) : Int) := by
  unfold cstep
  rw [iand_one ha]
  by_cases h : a % 2 = 1
  · rw [if_pos (by omega), if_pos h]
    have := ixor_nat (a := a / 2) (b := 2197175160) (by omega) (by omega)
    rw [← this]; rfl
  · rw [if_neg (by omega), if_neg h]; omega
theorem xor_top {a : Nat} (ha : a < 2147483648) : 2147483648 ≤ a ^^^ 2197175160 := by
  rcases Nat.lt_or_ge (a ^^^ 2197175160) 2147483648 with h | h
  · have h1 : (a ^^^ 2197175160).testBit 31 = false := Nat.testBit_lt_two_pow (by simpa using h)
    rw [Nat.testBit_xor, Nat.testBit_lt_two_pow (i := 31) (by simpa using ha)] at h1
    exact absurd h1 (by decide)
  · exact h
theorem xor_cancel {a b c : Nat} (h : a ^^^ c = b ^^^ c) : a = b := by
  have := congrArg (· ^^^ c) h
  simpa [Nat.xor_assoc] using this
theorem cstep_u {n : Int} (h : U32 n) : U32 (cstep n) := by
  obtain ⟨a, rfl, ha⟩ := nat_of h
  rw [cstep_nat ha]
  split
  · exact ⟨by omega, by have := Nat.xor_lt_two_pow (n := 32) (x := a / 2) (y := 2197175160) (by omega) (by omega); omega⟩
  · exact ⟨by omega, by omega⟩
theorem cstep_inj {n m : Int} (h : U32 n) (k : U32 m) (e : cstep n = cstep m) : n = m := by
  obtain ⟨a, rfl, ha⟩ := nat_of h
  obtain ⟨b, rfl, hb⟩ := nat_of k
  rw [cstep_nat ha, cstep_nat hb] at e
  have e' := Int.ofNat.inj e
  have ta := xor_top (a := a / 2) (by omega)
  have tb := xor_top (a := b / 2) (by omega)
  split at e' <;> split at e'
  · have := xor_cancel e'; omega
  · omega
  · omega
  · omega
theorem cN_u (k : Nat) {n : Int} (h : U32 n) : U32 (cN k n) := by
  induction k with
  | zero => exact h
  | succ k ih => exact cstep_u ih
theorem cN_inj (k : Nat) {n m : Int} (h : U32 n) (h2 : U32 m) (e : cN k n = cN k m) : n = m := by
  induction k with
  | zero => exact e
  | succ k ih => exact ih (cstep_inj (cN_u k h) (cN_u k h2) e)
theorem wrap_u (b : Int) : U32 (IntKind.u32.wrap b) := by rw [wrap_u32]; exact ⟨by omega, by omega⟩
theorem ixor_u {n m : Int} (h : U32 n) (k : U32 m) : U32 (ixor .u32 n m) := by
  obtain ⟨a, rfl, ha⟩ := nat_of h
  obtain ⟨b, rfl, hb⟩ := nat_of k
  rw [ixor_nat ha hb]
  have := Nat.xor_lt_two_pow (n := 32) ha hb
  exact ⟨by omega, by omega⟩
theorem ixor_inj {n m c : Int} (h : U32 n) (k : U32 m) (hc : U32 c) (e : ixor .u32 n c = ixor .u32 m c) : n = m := by
  obtain ⟨a, rfl, ha⟩ := nat_of h
  obtain ⟨b, rfl, hb⟩ := nat_of k
  obtain ⟨c, rfl, hd⟩ := nat_of hc
  rw [ixor_nat ha hd, ixor_nat hb hd] at e
  rw [xor_cancel (Int.ofNat.inj e)]
theorem ixor_inj2 {n m c : Int} (h : U32 n) (k : U32 m) (hc : U32 c) (e : ixor .u32 c n = ixor .u32 c m) : n = m := by
  obtain ⟨a, rfl, ha⟩ := nat_of h
  obtain ⟨b, rfl, hb⟩ := nat_of k
  obtain ⟨c, rfl, hd⟩ := nat_of hc
  rw [ixor_nat hd ha, ixor_nat hd hb, Nat.xor_comm c a, Nat.xor_comm c b] at e
  rw [xor_cancel (Int.ofNat.inj e)]
theorem cbyte_u {n b : Int} (h : U32 n) : U32 (cbyte n b) := cN_u 8 (ixor_u h (wrap_u b))
theorem cbyte_inj {n m b : Int} (h : U32 n) (k : U32 m) (e : cbyte n b = cbyte m b) : n = m := ixor_inj h k (wrap_u b) (cN_inj 8 (ixor_u h (wrap_u b)) (ixor_u k (wrap_u b)) e)
theorem cbyte_ne {n b c : Int} (h : U32 n) (hb : 0 ≤ b ∧ b < 256) (hc : 0 ≤ c ∧ c < 256) (e : cbyte n b = cbyte n c) : b = c := by
  have := ixor_inj2 (wrap_u b) (wrap_u c) h (cN_inj 8 (ixor_u h (wrap_u b)) (ixor_u h (wrap_u c)) e)
  rw [wrap_u32, wrap_u32] at this; omega
theorem cbytes_u {bs : List Int} : ∀ {n : Int}, U32 n → U32 (cbytes n bs) := by
  induction bs with
  | nil => intro n h; exact h
  | cons b bs ih => intro n h; exact ih (cbyte_u h)
theorem cbytes_inj {bs : List Int} : ∀ {n m : Int}, U32 n → U32 m → cbytes n bs = cbytes m bs → n = m := by
  induction bs with
  | nil => intro n m _ _ e; exact e
  | cons b bs ih => intro n m h k e; exact cbyte_inj h k (ih (cbyte_u h) (cbyte_u k) e)
theorem cbytes_append (n : Int) (a b : List Int) : cbytes n (a ++ b) = cbytes (cbytes n a) b := by simp [cbytes]
theorem full_u : U32 4294967295 := ⟨by omega, by omega⟩
theorem crc_u {n : Int} {bs : List Int} (h : U32 n) : U32 (crc n bs) := ixor_u full_u (cbytes_u (ixor_u full_u h))
theorem crc_inj {n m : Int} {bs : List Int} (h : U32 n) (k : U32 m) (e : crc n bs = crc m bs) : n = m :=
  ixor_inj2 h k full_u (cbytes_inj (ixor_u full_u h) (ixor_u full_u k) (ixor_inj2 (cbytes_u (ixor_u full_u h)) (cbytes_u (ixor_u full_u k)) full_u e))
/-- One byte within. -/
theorem crc_ne {n b c : Int} {p q : List Int} (h : U32 n) (hb : 0 ≤ b ∧ b < 256) (hc : 0 ≤ c ∧ c < 256) (hne : b ≠ c) : crc n (p ++ b :: q) ≠ crc n (p ++ c :: q) := by
  intro e
  have h0 := ixor_u full_u h
  have e2 := ixor_inj2 (cbytes_u h0) (cbytes_u h0) full_u e
  rw [cbytes_append, cbytes_append] at e2
  have hp : U32 (cbytes (ixor .u32 4294967295 n) p) := cbytes_u h0
  exact hne (cbyte_ne hp hb hc (cbytes_inj (cbyte_u hp) (cbyte_u hp) e2))
end Go.Proofs.Ytgeggiebefonhaa
