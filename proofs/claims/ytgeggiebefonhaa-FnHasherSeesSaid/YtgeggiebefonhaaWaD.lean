/- How a record of a log is written, said over lists of bytes. -/
import Derived.Test.YtgeggiebefonhaaGwT
set_option linter.unusedVariables false
set_option linter.unusedSimpArgs false
namespace Go.Proofs.Ytgeggiebefonhaa
open Go Go.RowKit Gw
theorem bytesV_app (a b : List Int) : bytesV a ++ bytesV b = bytesV (a ++ b) := by simp [bytesV]
theorem bytesV_rep (k : Nat) : List.replicate k (Value.int .u8 0) = bytesV (List.replicate k 0) := by simp [bytesV]
/-- A number in pieces of seven bits. -/
def vint (n : Nat) : List Int := if h : n < 128 then [IntKind.u8.wrap n] else ior .u8 (IntKind.u8.wrap n) 128 :: vint (n / 128)
termination_by n
decreasing_by omega
theorem vint_lt {n : Nat} (h : n < 128) : vint n = [IntKind.u8.wrap n] := by rw [vint]; rw [dif_pos h]
theorem vint_ge {n : Nat} (h : ¬ n < 128) : vint n = ior .u8 (IntKind.u8.wrap n) 128 :: vint (n / 128) := by rw [vint]; rw [dif_neg h]
theorem vint_len (k : Nat) : ∀ (n : Nat), n < 128 ^ (k + 1) → (vint n).length ≤ k + 1 := by
  induction k with
  | zero => intro n h; rw [vint_lt (by simpa using h)]; simp
  | succ k ih =>
    intro n h
    by_cases h1 : n < 128
    · rw [vint_lt h1]; simp
    · rw [vint_ge h1]
      have := ih (n / 128) (by rw [Nat.div_lt_iff_lt_mul (by omega)]; rw [Nat.pow_succ] at h; exact h)
      simp; omega
theorem vint_len10 {n : Nat} (h : n < 18446744073709551616) : (vint n).length ≤ 10 := vint_len 9 n (Nat.lt_trans h (by decide))
def vi (x : Int) : List Int := vint (IntKind.u64.wrap x).toNat
theorem wrap_u64 (x : Int) : IntKind.u64.wrap x = x % 18446744073709551616 := by
  have e1 : (2 : Int) ^ 64 = 18446744073709551616 := by decide
  simp [IntKind.wrap, IntKind.bits, IntKind.signed, e1]
theorem wrap_u8 (x : Int) : IntKind.u8.wrap x = x % 256 := by
  have e1 : (2 : Int) ^ 8 = 256 := by decide
  simp [IntKind.wrap, IntKind.bits, IntKind.signed, e1]
theorem u64_range (x : Int) : 0 ≤ IntKind.u64.wrap x ∧ IntKind.u64.wrap x < 18446744073709551616 := by rw [wrap_u64]; omega
theorem vi_len (x : Int) : (vi x).length ≤ 10 := by
  have := u64_range x
  exact vint_len10 (by omega)
/-! ### The sum -/
def cstep (n : Int) : Int := if iand .u32 n 1 = 1 then ixor .u32 (n / 2) 2197175160 else n / 2
def cN : Nat → Int → Int
  | 0, n => n
  | k + 1, n => cstep (cN k n)
def cbyte (n b : Int) : Int := cN 8 (ixor .u32 n (IntKind.u32.wrap b))
def cbytes (n : Int) (bs : List Int) : Int := bs.foldl cbyte n
def crc (prev : Int) (bs : List Int) : Int := ixor .u32 4294967295 (cbytes (ixor .u32 4294967295 prev) bs)
theorem cbytes_take {n : Int} {bs : List Int} {k : Nat} {b : Int} (h : bs[k]? = some b) : cbytes n (bs.take (k + 1)) = cbyte (cbytes n (bs.take k)) b := by
  rw [List.take_add_one, h]; simp [cbytes]
/-! ### A record and its frame -/
def wbody (ty sum : Int) (has : Bool) (ds : List Int) : List Int := [8] ++ vi ty ++ [16] ++ vi sum ++ (if has then [26] ++ vi ds.length ++ ds else [])
def wpad (n : Nat) : Nat := (8 - n % 8) % 8
def le7 (n : Nat) : List Int := [0, 1, 2, 3, 4, 5, 6].map fun i => IntKind.u8.wrap (IntKind.u64.wrap n / (2 : Int) ^ (8 * i))
def wtop (n : Nat) : Int := if 0 < wpad n then ior .u8 128 (IntKind.u8.wrap (wpad n)) else 0
def wframe (b : List Int) : List Int := le7 b.length ++ [wtop b.length] ++ b ++ List.replicate (wpad b.length) 0
def lenField (n : Nat) : Int := if wpad n ≠ 0 then ior .u64 (IntKind.u64.wrap n) (IntKind.u64.wrap (IntKind.u64.wrap (ior .i64 128 (wpad n)) * 72057594037927936)) else IntKind.u64.wrap n
def le8 (x : Int) : List Int := [0, 1, 2, 3, 4, 5, 6, 7].map fun i => IntKind.u8.wrap (x / (2 : Int) ^ (8 * i))
theorem ior_u64 {a b : Nat} (ha : a < 72057594037927936) (hb : b < 256) : ior .u64 (a : Int) ((b * 72057594037927936 : Nat) : Int) = ((b * 72057594037927936 + a : Nat) : Int) := by
  have h1 : (b * 72057594037927936 ||| a) = b * 72057594037927936 + a := by
    have := Nat.two_pow_add_eq_or_of_lt (i := 56) (b := a) (by simpa using ha) b
    rw [Nat.mul_comm] at this
    simpa [Nat.mul_comm] using this.symm
  unfold ior
  have e : ((BitVec.ofInt 64 (a : Int) ||| BitVec.ofInt 64 ((b * 72057594037927936 : Nat) : Int)).toNat) = b * 72057594037927936 + a := by
    rw [BitVec.toNat_or, BitVec.ofInt_natCast, BitVec.ofInt_natCast, BitVec.toNat_ofNat, BitVec.toNat_ofNat, Nat.mod_eq_of_lt (by omega), Nat.mod_eq_of_lt (by omega), Nat.or_comm, h1]
  show IntKind.u64.wrap (((BitVec.ofInt 64 (a : Int) ||| BitVec.ofInt 64 ((b * 72057594037927936 : Nat) : Int)).toNat : Nat) : Int) = _
  rw [e, wrap_u64]; omega
theorem pad_top {p : Nat} (h : p < 8) : ior .i64 128 (p : Int) = 128 + p ∧ ior .u8 128 (IntKind.u8.wrap (p : Int)) = 128 + p := by
  have : p = 0 ∨ p = 1 ∨ p = 2 ∨ p = 3 ∨ p = 4 ∨ p = 5 ∨ p = 6 ∨ p = 7 := by omega
  rcases this with rfl | rfl | rfl | rfl | rfl | rfl | rfl | rfl <;> decide
theorem frame_eq {n : Nat} (h : n < 1099511627776) : le8 (lenField n) = le7 n ++ [wtop n] := by
  have hp : wpad n < 8 := Nat.mod_lt _ (by omega)
  have hn : IntKind.u64.wrap (n : Int) = n := by rw [wrap_u64]; omega
  obtain ⟨t1, t2⟩ := pad_top hp
  unfold lenField wtop
  by_cases h0 : wpad n = 0
  · rw [if_neg (by simp [h0]), if_neg (by omega)]
    rw [hn]
    simp only [le8, le7, List.map_cons, List.map_nil, List.cons_append, List.nil_append, hn]
    have : IntKind.u8.wrap ((n : Int) / 2 ^ (8 * 7)) = 0 := by
      have e : (2 : Int) ^ (8 * 7) = 72057594037927936 := by decide
      rw [e, wrap_u8]; omega
    rw [this]
  · rw [if_pos h0, if_pos (by omega), t1, t2, hn]
    have e1 : IntKind.u64.wrap (128 + (wpad n : Int)) = 128 + wpad n := by rw [wrap_u64]; omega
    rw [e1]
    have e2 : IntKind.u64.wrap ((128 + (wpad n : Int)) * 72057594037927936) = (((128 + wpad n) * 72057594037927936 : Nat) : Int) := by rw [wrap_u64]; omega
    rw [e2, ior_u64 (by omega) (by omega)]
    generalize wpad n = p at *
    simp only [le8, le7, List.map_cons, List.map_nil, List.cons_append, List.nil_append, hn]
    have e3 : (2 : Int) ^ (8 * 0) = 1 ∧ (2 : Int) ^ (8 * 1) = 256 ∧ (2 : Int) ^ (8 * 2) = 65536 ∧ (2 : Int) ^ (8 * 3) = 16777216 ∧ (2 : Int) ^ (8 * 4) = 4294967296 ∧ (2 : Int) ^ (8 * 5) = 1099511627776 ∧ (2 : Int) ^ (8 * 6) = 281474976710656 ∧ (2 : Int) ^ (8 * 7) = 72057594037927936 := by decide
    obtain ⟨p0, p1, p2, p3, p4, p5, p6, p7⟩ := e3
    simp only [p0, p1, p2, p3, p4, p5, p6, p7, wrap_u8]
    refine congr (congrArg _ (by omega)) (congr (congrArg _ (by omega)) (congr (congrArg _ (by omega)) (congr (congrArg _ (by omega)) (congr (congrArg _ (by omega)) (congr (congrArg _ (by omega)) (congr (congrArg _ (by omega)) (congr (congrArg _ (by omega)) rfl)))))))
end Go.Proofs.Ytgeggiebefonhaa
