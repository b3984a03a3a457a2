/-
  What is proved: the number of blocks that NumSplitBlocksOf returns holds so many bits for so many values, and one block fewer would not.
  Conditions: none; for every two integers that the statement takes (it cuts them to 24 and 8 bits itself).
-/
import Derived.Test.YtojoppondgnajaaPFnBloomBlocksx1
namespace Go.Proofs.Ytojoppondgnajaa.Pure
open Go.RowKit Go.Proofs.Ytojoppondgnajaa.PFnBloomBlocks Go.Proofs.YtojoppondgnajaaW.PrintWords Go.Proofs.YtojoppondgnajaaW.PrintLast

theorem mask_bd (a : Int) (j m : Nat) (hj : j ≤ 62) (hm : m = 2^j - 1) : 0 ≤ Go.bits .and .i64 a m ∧ Go.bits .and .i64 a m < 2^j := by
  unfold Go.bits
  simp only [BitVec.ofInt_natCast, BitVec.toNat_and, BitVec.toNat_ofNat]
  have h1 : m < 2^j := by have := Nat.two_pow_pos j; omega
  have h2 : (2:Nat)^j ≤ 2^62 := Nat.pow_le_pow_right (by decide) hj
  have h3 : m % 2 ^ IntKind.i64.bits = m := Nat.mod_eq_of_lt (by show m < 2^64; omega)
  have h4 : (BitVec.ofInt IntKind.i64.bits a).toNat &&& (m % 2^IntKind.i64.bits) < 2^j := by rw [h3]; exact Nat.and_lt_two_pow _ h1
  generalize (BitVec.ofInt IntKind.i64.bits a).toNat &&& (m % 2^IntKind.i64.bits) = n at *
  have h5 : (n : Int) < 2^j := by exact_mod_cast h4
  have h6 : ((2:Int)^j) ≤ 2^62 := by exact_mod_cast h2
  rw [IntWalk.i64_in _ (by omega)]
  omega

theorem FnBloomBlocks : laws_FnBloomBlocks.Pure := by
  intro a0 a1 _ _
  obtain ⟨n0, n1⟩ := mask_bd a0 24 16777215 (by decide) (by decide)
  obtain ⟨k0, k1⟩ := mask_bd a1 8 255 (by decide) (by decide)
  unfold laws_FnBloomBlocks.f impl_BlocksOf.f pqbloom_NumSplitBlocksOf.f
  simp only [Option.bind_some]
  generalize hn : Go.bits .and .i64 a0 16777215 = n at *
  generalize hk : Go.bits .and .i64 a1 255 = k at *
  have hp0 : 0 ≤ n * k := Int.mul_nonneg n0 k0
  have hp1 : n * k ≤ 16777215 * 255 := Int.mul_le_mul (by omega) (by omega) k0 (by omega)
  rw [IntWalk.u64_in n (by omega), IntWalk.u64_in k (by omega), IntWalk.u64_in (n*k) (by omega), IntWalk.u64_in (n*k+7) (by omega)]
  rw [IntWalk.u64_quo _ 8 (by omega)]
  have q0 := Int.emod_add_mul_ediv (n*k+7) 8
  generalize hq : (n*k+7)/8 = q at *
  rw [IntWalk.u64_in (q+31) (by omega), IntWalk.u64_quo _ 32 (by omega)]
  generalize hr : (q+31)/32 = r at *
  rw [IntWalk.wrap64_in r (by omega), IntWalk.wrap64_in (r*256) (by omega), IntWalk.wrap64_in (n*k) (by omega), IntWalk.wrap64_in (r-1) (by omega), IntWalk.wrap64_in ((r-1)*256) (by omega)]
  rw [if_pos (by omega)]
  simp only [Option.some.injEq, decide_eq_true_eq]
  omega
end Go.Proofs.Ytojoppondgnajaa.Pure
