/- The hash of rows, said over lists of bytes. -/
import Derived.Test.YtgeggiebefonhaaWaC0
import Derived.Test.YtgeggiebefonhaaGwX
set_option linter.unusedVariables false
set_option linter.unusedSimpArgs false
namespace Go.Proofs.Ytgeggiebefonhaa
open Go Go.RowKit Gw
/-- A number's eight bytes, the greatest one first. -/
def be8 (x : Int) : List Int := [IntKind.u8.wrap (IntKind.u64.wrap x / 72057594037927936), IntKind.u8.wrap (IntKind.u64.wrap x / 281474976710656), IntKind.u8.wrap (IntKind.u64.wrap x / 1099511627776), IntKind.u8.wrap (IntKind.u64.wrap x / 4294967296), IntKind.u8.wrap (IntKind.u64.wrap x / 16777216), IntKind.u8.wrap (IntKind.u64.wrap x / 65536), IntKind.u8.wrap (IntKind.u64.wrap x / 256), IntKind.u8.wrap (IntKind.u64.wrap x)]
def rkey (m s : Int) (t : Bool) : List Int := be8 m ++ [95] ++ be8 s ++ (if t then [116] else [])
theorem rkey_len (m s : Int) (t : Bool) : (rkey m s t).length = if t then 18 else 17 := by cases t <;> rfl
theorem or_bytes {a b : Nat} (ha : a < 72057594037927936) (hb : b < 256) : ior .u64 ((a * 256 : Nat) : Int) (b : Int) = ((a * 256 + b : Nat) : Int) := by
  have h1 : (a * 256 ||| b) = a * 256 + b := by
    have := Nat.two_pow_add_eq_or_of_lt (i := 8) (b := b) (by simpa using hb) a
    rw [Nat.mul_comm] at this
    simpa [Nat.mul_comm] using this.symm
  unfold ior
  have e : ((BitVec.ofInt 64 ((a * 256 : Nat) : Int) ||| BitVec.ofInt 64 (b : Int)).toNat) = a * 256 + b := by
    rw [BitVec.toNat_or, BitVec.ofInt_natCast, BitVec.ofInt_natCast, BitVec.toNat_ofNat, BitVec.toNat_ofNat, Nat.mod_eq_of_lt (by omega), Nat.mod_eq_of_lt (by omega), h1]
  show IntKind.u64.wrap (((BitVec.ofInt 64 ((a * 256 : Nat) : Int) ||| BitVec.ofInt 64 (b : Int)).toNat : Nat) : Int) = _
  rw [e, wrap_u64]; omega
theorem or_byte {a b r : Int} (ha : 0 ≤ a) (ha2 : a < 72057594037927936) (hb : 0 ≤ b) (hb2 : b < 256) (hr : a * 256 + b = r) : ior .u64 (IntKind.u64.wrap (a * 256)) (IntKind.u64.wrap b) = r := by
  obtain ⟨x, rfl⟩ : ∃ x : Nat, a = x := ⟨a.toNat, by omega⟩
  obtain ⟨y, rfl⟩ : ∃ y : Nat, b = y := ⟨b.toNat, by omega⟩
  have e1 : IntKind.u64.wrap ((x : Int) * 256) = ((x * 256 : Nat) : Int) := by rw [wrap_u64]; omega
  have e2 : IntKind.u64.wrap (y : Int) = (y : Int) := by rw [wrap_u64]; omega
  rw [e1, e2, or_bytes (by omega) (by omega)]; omega
end Go.Proofs.Ytgeggiebefonhaa
