import Derived.WalkKit
/-! The bits of a time without a monotonic reading: no Go in sight. -/
namespace Go.Proofs.Ybulkbiyq
open Go.RowKit

theorem mask30 (x : Int) (h1 : 0 ≤ x) (h2 : x < 1000000000) : bits .and .u64 x 1073741823 = x := by
  obtain ⟨n, rfl⟩ : ∃ n : Nat, x = (n : Int) := ⟨x.toNat, by omega⟩
  have h := u64_and_nat n 1073741823 (by omega) (by omega)
  have e : n &&& 1073741823 = n % 1073741824 := Nat.and_two_pow_sub_one_eq_mod n 30
  rw [e, Nat.mod_eq_of_lt (by omega)] at h
  exact h

theorem and_top (n : Nat) (h : n < 1073741824) : n &&& 9223372036854775808 = 0 := by
  have e : n &&& 2 ^ 63 = 0 := by
    apply Nat.eq_of_testBit_eq
    intro i
    rw [Nat.testBit_and, Nat.testBit_two_pow, Nat.zero_testBit]
    by_cases hi : 63 = i
    · subst hi
      rw [Nat.testBit_lt_two_pow (Nat.lt_of_lt_of_le h (by decide))]
      rfl
    · simp [hi]
  exact e

theorem top0 (x : Int) (h1 : 0 ≤ x) (h2 : x < 1000000000) : bits .and .u64 x 9223372036854775808 = 0 := by
  obtain ⟨n, rfl⟩ : ∃ n : Nat, x = (n : Int) := ⟨x.toNat, by omega⟩
  have h := u64_and_nat n 9223372036854775808 (by omega) (by omega)
  rw [and_top n (by omega)] at h
  exact h

theorem top00 (x y : Int) (h1 : 0 ≤ x) (h2 : x < 1000000000) (h3 : 0 ≤ y) (h4 : y < 1000000000) : bits .and .u64 (bits .and .u64 x y) 9223372036854775808 = 0 := by
  obtain ⟨n, rfl⟩ : ∃ n : Nat, x = (n : Int) := ⟨x.toNat, by omega⟩
  obtain ⟨m, rfl⟩ : ∃ m : Nat, y = (m : Int) := ⟨y.toNat, by omega⟩
  have h := u64_and_nat n m (by omega) (by omega)
  rw [h]
  have hle : n &&& m ≤ n := Nat.and_le_left
  have h' := u64_and_nat (n &&& m) 9223372036854775808 (by omega) (by omega)
  rw [and_top _ (by omega)] at h'
  exact h'

theorem or0 (x : Int) (h1 : 0 ≤ x) (h2 : x < 1000000000) : bits .or .u64 0 x = x := by
  obtain ⟨n, rfl⟩ : ∃ n : Nat, x = (n : Int) := ⟨x.toNat, by omega⟩
  have h := u64_or_nat 0 n (by omega) (by omega)
  simpa using h

end Go.Proofs.Ybulkbiyq
