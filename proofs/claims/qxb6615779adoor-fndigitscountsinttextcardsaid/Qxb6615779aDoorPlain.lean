import Derived.Test.Qxb6615779aDoorWalkB
import Derived.Lib.ItoaNum
import Derived.Lib.ItoaLen
namespace Go.Proofs.Qxb6615779aDoor
open Go.RowKit

theorem run_unique {zs : List Int} {p k k' : Nat} (h : IsRun zs p k) (h' : IsRun zs p k') : k = k' := by
  obtain ⟨a1, a2, a3⟩ := h
  obtain ⟨b1, b2, b3⟩ := h'
  rcases Nat.lt_trichotomy k k' with hl | he | hl
  · have x := a3 (by omega)
    rw [b2 (p + k) (by omega) (by omega)] at x
    cases x
  · exact he
  · have x := b3 (by omega)
    rw [a2 (p + k') (by omega) (by omega)] at x
    cases x

/-- The text's bytes as numbers. -/
def nums (l : List UInt8) : List Int := l.map fun c => (c.toNat : Int)

theorem isD_digit (d : Nat) (h : d < 10) : isD ((UInt8.ofNat (48 + d)).toNat : Int) = true := by
  have : (UInt8.ofNat (48 + d)).toNat = 48 + d := by
    rw [UInt8.toNat_ofNat']; omega
  rw [this]
  simp [isD]
  omega

theorem digits_are (u : Nat) : ∀ c ∈ Lib.decDigits u, isD (c.toNat : Int) = true := by
  induction u using Nat.strongRecOn with
  | _ u ih =>
    rw [Lib.decDigits]
    split
    · intro c hc
      rw [List.mem_singleton] at hc
      subst hc
      exact isD_digit u ‹_›
    · intro c hc
      rcases List.mem_append.1 hc with h | h
      · exact ih (u / 10) (by omega) c h
      · rw [List.mem_singleton] at h
        subst h
        exact isD_digit (u % 10) (by omega)

theorem nums_get (l : List UInt8) (i : Nat) (h : i < l.length) : (nums l).getD i 0 = (l[i].toNat : Int) := by
  simp [nums, List.getD_eq_getElem?_getD, h]

theorem run_nonneg (n : Int) (h : ¬ n < 0) : IsRun (nums (Lib.itoa n)) 0 (Lib.nDigits n.natAbs) := by
  have e : Lib.itoa n = Lib.decDigits n.natAbs := by unfold Lib.itoa; rw [if_neg h]; congr 1; omega
  rw [e]
  have hl := Lib.decDigits_length n.natAbs
  refine ⟨by simp [nums, hl], fun i _ hi => ?_, fun h => ?_⟩
  · rw [nums_get _ i (by omega)]
    exact digits_are _ _ (List.getElem_mem _)
  · simp [nums, hl] at h

theorem len_nonneg (n : Int) (h : ¬ n < 0) : (nums (Lib.itoa n)).length = Lib.nDigits n.natAbs := by
  have e : Lib.itoa n = Lib.decDigits n.natAbs := by unfold Lib.itoa; rw [if_neg h]; congr 1; omega
  simp [nums, e, Lib.decDigits_length]

theorem len_neg (n : Int) (h : n < 0) : (nums (Lib.itoa n)).length = Lib.nDigits n.natAbs + 1 := by
  simp [nums, Lib.itoa, h, Lib.decDigits_length]

theorem run_neg0 (n : Int) (h : n < 0) : IsRun (nums (Lib.itoa n)) 0 0 := by
  refine ⟨by simp, fun i _ hi => by omega, fun _ => ?_⟩
  simp [nums, Lib.itoa, h, isD]

theorem run_neg1 (n : Int) (h : n < 0) : IsRun (nums (Lib.itoa n)) 1 (Lib.nDigits n.natAbs) := by
  have e : Lib.itoa n = 45 :: Lib.decDigits n.natAbs := by unfold Lib.itoa; rw [if_pos h]
  have hl := Lib.decDigits_length n.natAbs
  rw [e]
  refine ⟨by simp [nums, hl]; omega, fun i i1 hi => ?_, fun h => ?_⟩
  · rw [nums_get _ i (by simp; omega)]
    obtain ⟨j, rfl⟩ : ∃ j, i = j + 1 := ⟨i - 1, by omega⟩
    simp only [List.getElem_cons_succ]
    exact digits_are _ _ (List.getElem_mem _)
  · simp [nums, hl] at h; omega

theorem nDigits_le (n : Int) (h0 : -9223372036854775808 ≤ n) (h1 : n ≤ 9223372036854775807) : Lib.nDigits n.natAbs ≤ 21 := by
  have := Lib.itoa_length_le n h0 h1
  by_cases h : n < 0
  · have := len_neg n h; simp [nums] at this; omega
  · have := len_nonneg n h; simp [nums] at this; omega

theorem nDigits_step (m : Nat) : (m < 10 → Lib.nDigits m = 1) ∧ (¬ m < 10 → Lib.nDigits m = Lib.nDigits (m / 10) + 1) := by
  constructor
  · intro h; rw [Lib.nDigits, dif_pos h]
  · intro h; rw [Lib.nDigits, dif_neg h]
end Go.Proofs.Qxb6615779aDoor
