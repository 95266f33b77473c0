import Derived.Test.Qxb6618565aFmtFacts
import Derived.WalkKit
namespace Go.Proofs.Qxb6618565aFmt

theorem xor_max (y : Nat) (hy : y < 18446744073709551616) : bits .xor .u64 IntKind.u64.max (y : Int) = (18446744073709551615 - y : Nat) := by
  have e1 : BitVec.ofInt 64 18446744073709551615 = BitVec.allOnes 64 := by decide
  have e2 : (BitVec.allOnes 64 ^^^ BitVec.ofInt 64 (y : Int)).toNat = 18446744073709551615 - y := by
    rw [BitVec.allOnes_xor, BitVec.toNat_not]
    have : (BitVec.ofInt 64 (y : Int)).toNat = y := by
      rw [BitVec.ofInt_natCast, BitVec.toNat_ofNat]
      omega
    rw [this]
  show IntKind.u64.wrap (((BitVec.ofInt 64 18446744073709551615) ^^^ BitVec.ofInt 64 (y : Int)).toNat : Int) = _
  rw [e1, e2, IntKind.wrap_u64]
  omega

theorem not_plus (U : Nat) (h0 : 0 < U) (h1 : U ≤ 9223372036854775808) : IntKind.u64.wrap (bits .xor .u64 IntKind.u64.max (IntKind.u64.wrap (-(U : Int))) + 1) = (U : Int) := by
  have e : IntKind.u64.wrap (-(U : Int)) = ((18446744073709551616 - U : Nat) : Int) := by
    rw [IntKind.wrap_u64]
    omega
  rw [e, xor_max _ (by omega), IntKind.wrap_u64]
  omega
end Go.Proofs.Qxb6618565aFmt
