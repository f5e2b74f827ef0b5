import Derived.Test.Qxb6616938aT
import Derived.WalkKit
namespace Go.Proofs.Qxb6616938a.A
set_option linter.unusedVariables false

theorem and_mask (p : Nat) (hp : p ≤ 40) (x : Int) : bits .and .i64 x ((2 ^ p : Nat) - 1 : Int) = x % (2 ^ p : Nat) := by
  have h1 : (2 ^ p : Nat) ≤ 2 ^ 40 := Nat.pow_le_pow_right (by decide) hp
  have h0 : 0 < (2 ^ p : Nat) := Nat.two_pow_pos p
  have hd : (2 ^ p : Nat) ∣ 2 ^ 64 := Nat.pow_dvd_pow 2 (by omega)
  have e1 : (BitVec.ofInt 64 ((2 ^ p : Nat) - 1 : Int)).toNat = 2 ^ p - 1 := by
    rw [BitVec.toNat_ofInt]
    have : ((2 ^ p : Nat) - 1 : Int) % ((2 ^ 64 : Nat) : Int) = ((2 ^ p : Nat) - 1 : Int) := Int.emod_eq_of_lt (by omega) (by omega)
    rw [this]; omega
  have e2 : ((BitVec.ofInt 64 x) &&& (BitVec.ofInt 64 ((2 ^ p : Nat) - 1 : Int))).toNat = (x % ((2 ^ 64 : Nat) : Int)).toNat % 2 ^ p := by
    rw [BitVec.toNat_and, e1, Nat.and_two_pow_sub_one_eq_mod, BitVec.toNat_ofInt]
  have e3 : (((x % ((2 ^ 64 : Nat) : Int)).toNat % 2 ^ p : Nat) : Int) = x % (2 ^ p : Nat) := by
    rw [Int.natCast_emod, Int.toNat_of_nonneg (Int.emod_nonneg _ (by decide))]
    exact Int.emod_emod_of_dvd x (Int.natCast_dvd_natCast.2 hd)
  show IntKind.wrap .i64 (((BitVec.ofInt 64 x) &&& (BitVec.ofInt 64 ((2 ^ p : Nat) - 1 : Int))).toNat : Int) = _
  rw [e2, e3]
  have h2 := Int.emod_nonneg x (show ((2 ^ p : Nat) : Int) ≠ 0 by omega)
  have h3 := Int.emod_lt_of_pos x (show (0 : Int) < ((2 ^ p : Nat) : Int) by omega)
  generalize x % ((2 ^ p : Nat) : Int) = r at *
  simp [IntKind.wrap, IntKind.bits, IntKind.signed]
  split <;> omega

theorem or_slot (k v : Nat) (hk : k < 4294967296) (hv : v < 4294967296) : bits .or .u64 ((k : Int) * 4294967296) (v : Int) = ((k * 4294967296 + v : Nat) : Int) := by
  have e1 : (BitVec.ofInt 64 ((k : Int) * 4294967296)).toNat = k * 4294967296 := by
    rw [BitVec.toNat_ofInt]; omega
  have e2 : (BitVec.ofInt 64 (v : Int)).toNat = v := by
    rw [BitVec.toNat_ofInt]; omega
  show IntKind.wrap .u64 (((BitVec.ofInt 64 ((k : Int) * 4294967296)) ||| (BitVec.ofInt 64 (v : Int))).toNat : Int) = _
  rw [BitVec.toNat_or, e1, e2]
  have : k * 4294967296 ||| v = k * 4294967296 + v := by
    have := Nat.two_pow_add_eq_or_of_lt (i := 32) (b := v) (by omega) k
    rw [Nat.mul_comm]; exact this.symm
  rw [this]
  simp [IntKind.wrap, IntKind.bits, IntKind.signed]
  omega

end Go.Proofs.Qxb6616938a.A
