import Derived.Test.Qxb6615843aRows
import Derived.WalkKit
import Derived.WalkSpells
import Derived.ProofKit
import Derived.Below
import Derived.OwnWalk
import Derived.Laws.BitsAllLaws
namespace Go.Proofs.Qxb6615843a
open Go.RowKit

theorem and_low (n : Int) (h0 : 0 ≤ n) (h1 : n < 1000000000) : bits .and .u64 n 1073741823 = n := by
  rw [u64_and n _ h0 (by omega) (by decide) (by decide)]
  have : n.toNat &&& (1073741823 : Int).toNat = n.toNat % 2 ^ 30 := Nat.and_two_pow_sub_one_eq_mod n.toNat 30
  rw [this]; omega

theorem and_high (n : Int) (h0 : 0 ≤ n) (h1 : n < 1073741824) : bits .and .u64 n 9223372036854775808 = 0 := by
  rw [u64_and n _ h0 (by omega) (by decide) (by decide)]
  have : n.toNat &&& (9223372036854775808 : Int).toNat = 0 := by
    show n.toNat &&& 2 ^ 63 = 0
    rw [nat_bit, Nat.div_eq_of_lt (by omega)]
  rw [this]; rfl

theorem and_both (n m : Int) (h0 : 0 ≤ n) (h1 : n < 1000000000) (g0 : 0 ≤ m) (g1 : m < 1000000000) : bits .and .u64 (bits .and .u64 n m) 9223372036854775808 = 0 := by
  rw [u64_and n m h0 (by omega) g0 (by omega)]
  have : n.toNat &&& m.toNat ≤ n.toNat := Nat.and_le_left
  exact and_high _ (by omega) (by omega)

theorem andNot_low (n : Int) (h0 : 0 ≤ n) (h1 : n < 1000000000) : bits .andNot .u64 n 1073741823 = 0 := by
  rw [u64_andNot n _ h0 (by omega) (by decide) (by decide)]
  have : n.toNat &&& (18446744073709551615 - (1073741823 : Int).toNat) = 0 := by
    apply Nat.eq_of_testBit_eq
    intro i
    rw [Nat.testBit_and, Nat.zero_testBit]
    by_cases hi : i < 30
    · have : (18446744073709551615 - (1073741823 : Int).toNat).testBit i = false := by
        have e : (18446744073709551615 - (1073741823 : Int).toNat) = 2 ^ 30 * 17179869183 := by decide
        rw [e, Nat.testBit_two_pow_mul]; simp; omega
      rw [this, Bool.and_false]
    · have : n.toNat < 2 ^ i := Nat.lt_of_lt_of_le (m := 2 ^ 30) (by omega) (Nat.pow_le_pow_right (by decide) (by omega))
      rw [Nat.testBit_lt_two_pow this, Bool.false_and]
  rw [this]; rfl

theorem or_zero (n : Int) (h0 : 0 ≤ n) (h1 : n < 1000000000) : bits .or .u64 0 n = n := by
  rw [u64_or 0 n (by decide) (by decide) h0 (by omega)]
  show ((0 ||| n.toNat : Nat) : Int) = n
  rw [Nat.zero_or]; omega

set_option maxRecDepth 100000 in
set_option maxHeartbeats 400000 in
theorem nsec {b : Nat} {n : Int} {w : World} (h : w.cell? ⟨b, 0, none⟩ = some (.int .u64 n)) (h0 : 0 ≤ n) (h1 : n < 1000000000) :
    Calls Try.prog 11 #[.pointer (some ⟨b, 0, none⟩)] w fun e w' => e = .returned (.int .i32 n) ∧ w' = w := by
  have hb := and_low n h0 h1
  have hw : IntKind.i32.wrap n = n := by rw [IntKind.wrap_i32]; omega
  go_enter Try.func11, Try.ntmps11
  go_wp2
  go_ret
  exact ⟨rfl, rfl⟩

set_option maxRecDepth 100000 in
set_option maxHeartbeats 400000 in
theorem sec {b : Nat} {n s : Int} {w : World} (h : w.cell? ⟨b, 0, none⟩ = some (.int .u64 n)) (g : w.cell? ⟨b, 1, none⟩ = some (.int .i64 s)) (h0 : 0 ≤ n) (h1 : n < 1000000000) :
    Calls Try.prog 17 #[.pointer (some ⟨b, 0, none⟩)] w fun e w' => e = .returned (.int .i64 s) ∧ w' = w := by
  have hb := and_high n h0 (by omega)
  go_enter Try.func17, Try.ntmps17
  go_wp2
  go_ret
  exact ⟨rfl, rfl⟩

set_option maxRecDepth 100000 in
set_option maxHeartbeats 400000 in
theorem addSec {b : Nat} {n s d : Int} {w : World} (h : w.cell? ⟨b, 0, none⟩ = some (.int .u64 n)) (g : w.cell? ⟨b, 1, none⟩ = some (.int .i64 s)) (f : w.frozen? ⟨b, 1, none⟩ = false) (h0 : 0 ≤ n) (h1 : n < 1000000000)
    (l1 : -9223372036854775808 ≤ s + d) (l2 : s + d < 9223372036854775808) :
    Calls Try.prog 12 #[.pointer (some ⟨b, 0, none⟩), .int .i64 d] w fun e w' => e = .returned (.tuple #[]) ∧ w' = w.setCell ⟨b, 1, none⟩ (.int .i64 (s + d)) := by
  have hb := and_high n h0 (by omega)
  have hw : IntKind.i64.wrap (s + d) = s + d := by rw [IntKind.wrap_i64]; omega
  have L : Hid (-9223372036854775808 ≤ s + d ∧ s + d < 9223372036854775808) := ⟨l1, l2⟩
  clear l1 l2
  by_cases hd : 0 < d
  · have e1 : decide (s < s + d) = true := by simp; omega
    have e2 : decide (0 < d) = true := by simp; omega
    go_enter Try.func12, Try.ntmps12
    go_wp2
    go_end0
    exact ⟨rfl, rfl⟩
  · have e1 : decide (s < s + d) = false := by simp; omega
    have e2 : decide (0 < d) = false := by simp; omega
    go_enter Try.func12, Try.ntmps12
    go_wp2
    go_end0
    exact ⟨rfl, rfl⟩

end Go.Proofs.Qxb6615843a
