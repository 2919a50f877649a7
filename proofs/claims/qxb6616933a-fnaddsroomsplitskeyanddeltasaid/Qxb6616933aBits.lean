/-
  THE PLAIN LAWS ON WORDS: '^x' of a uint64 and of an int64; the folding of PutVarint.
-/
import Derived.Test.Qxb6616933aPlain
import Derived.Laws.BitsAllLaws
import Derived.OpenShut
namespace Go.Proofs.Qxb6616933a
open Plain

theorem not_toNat (x : Int) : ((BitVec.allOnes 64 ^^^ BitVec.ofInt 64 x).toNat : Int) = 18446744073709551615 - x % 18446744073709551616 := by
  rw [BitVec.allOnes_xor, BitVec.toNat_not, BitVec.toNat_ofInt]
  have h0 : 0 ≤ x % 18446744073709551616 := Int.emod_nonneg _ (by decide)
  have h1 : x % 18446744073709551616 < 18446744073709551616 := Int.emod_lt_of_pos _ (by decide)
  have e : ((2 ^ 64 : Nat) : Int) = 18446744073709551616 := by decide
  rw [e]
  omega

theorem u64_not (x : Int) (h0 : 0 ≤ x) (h1 : x ≤ 18446744073709551615) : bits .xor .u64 IntKind.u64.max x = 18446744073709551615 - x := by
  show IntKind.u64.wrap ((BitVec.ofInt 64 IntKind.u64.max ^^^ BitVec.ofInt 64 x).toNat : Int) = _
  have h : BitVec.ofInt 64 IntKind.u64.max = BitVec.allOnes 64 := by decide
  rw [h, not_toNat]
  simp [IntKind.wrap, IntKind.bits, IntKind.signed]
  omega

theorem i64_not_any (x : Int) (h0 : -9223372036854775808 ≤ x) (h1 : x ≤ 9223372036854775807) : bits .xor .i64 (-1) x = -x - 1 := by
  show IntKind.i64.wrap ((BitVec.ofInt 64 (-1) ^^^ BitVec.ofInt 64 x).toNat : Int) = _
  have h : BitVec.ofInt 64 (-1) = BitVec.allOnes 64 := by decide
  rw [h, not_toNat]
  simp [IntKind.wrap, IntKind.bits, IntKind.signed]
  omega

theorem wrap_twice (d : Int) : IntKind.u64.wrap (IntKind.u64.wrap d * 2) = 2 * d % 18446744073709551616 := by
  simp [IntKind.wrap, IntKind.bits, IntKind.signed]
  omega

theorem fold_pos (d : Int) (h1 : d ≤ 9223372036854775807) (hn : ¬ d < 0) : IntKind.u64.wrap (IntKind.u64.wrap d * 2) = zig d := by
  rw [wrap_twice]
  unfold zig
  rw [if_neg hn]
  omega

theorem fold_neg (d : Int) (h0 : -9223372036854775808 ≤ d) (hn : d < 0) : bits .xor .u64 IntKind.u64.max (IntKind.u64.wrap (IntKind.u64.wrap d * 2)) = zig d := by
  rw [wrap_twice, u64_not _ (by omega) (by omega)]
  unfold zig
  rw [if_pos hn]
  omega

theorem i64_bd (d : Int) (h : (Lit.int .i64 d).wf = true) : -9223372036854775808 ≤ d ∧ d ≤ 9223372036854775807 := bounds_i64 h

end Go.Proofs.Qxb6616933a
