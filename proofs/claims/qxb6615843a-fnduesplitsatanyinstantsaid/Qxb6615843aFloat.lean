import Derived.Laws.FloatArith
namespace Go.Proofs.Qxb6615843a
open Ieee

/-- 'm * 2 ^ i' is at most '2 ^ k'. -/
def Lo (m : Nat) (i : Int) (k : Nat) : Prop := ∃ a b : Nat, i = (a : Int) - b ∧ m * 2 ^ a ≤ 2 ^ (k + b)

theorem Lo.any {m : Nat} {i : Int} {k : Nat} (h : Lo m i k) {a b : Nat} (e : i = (a : Int) - b) : m * 2 ^ a ≤ 2 ^ (k + b) := by
  obtain ⟨a', b', e', h⟩ := h
  have hs : a + b' = a' + b := by omega
  have h2 : m * 2 ^ a' * 2 ^ b ≤ 2 ^ (k + b') * 2 ^ b := Nat.mul_le_mul_right _ h
  rw [Nat.mul_assoc, ← Nat.pow_add, ← hs, Nat.pow_add, ← Nat.mul_assoc, ← Nat.pow_add, show k + b' + b = (k + b) + b' by omega, Nat.pow_add 2 (k + b)] at h2
  exact Nat.le_of_mul_le_mul_right h2 (Nat.two_pow_pos _)

theorem Lo.mul {m n : Nat} {i j : Int} {k l : Nat} (h : Lo m i k) (g : Lo n j l) : Lo (m * n) (i + j) (k + l) := by
  obtain ⟨a, b, e, h⟩ := h
  obtain ⟨c, d, f, g⟩ := g
  refine ⟨a + c, b + d, by omega, ?_⟩
  have := Nat.mul_le_mul h g
  rw [← Nat.pow_add] at this
  rw [show k + l + (b + d) = k + b + (l + d) by omega, Nat.pow_add 2 a c, Nat.mul_assoc m n, Nat.mul_left_comm n, ← Nat.mul_assoc]
  exact this

theorem Lo.lead {m : Nat} {i : Int} {k : Nat} (h : Lo m i k) (h0 : m ≠ 0) : i + m.log2 ≤ k := by
  obtain ⟨a, b, e, h⟩ := h
  have h1 : 2 ^ m.log2 ≤ m := Nat.log2_self_le h0
  have h2 : 2 ^ (m.log2 + a) ≤ 2 ^ (k + b) := by
    rw [Nat.pow_add]; exact Nat.le_trans (Nat.mul_le_mul_right _ h1) h
  have := (Nat.pow_le_pow_iff_right (by decide : 1 < 2)).1 h2
  omega

theorem cut_even_le {s : Bool} {n d : Nat} (h : n < 2 ^ (53 + d)) : Toward.even.cut s n d ≤ 2 ^ 53 := by
  unfold Toward.cut
  simp only [Nat.shiftLeft_eq, Nat.one_mul]
  by_cases hd : d ≤ n.log2 + 2
  · rw [Nat.min_eq_left hd]
    have h1 : n / 2 ^ d < 2 ^ 53 := by
      rw [Nat.div_lt_iff_lt_mul (Nat.two_pow_pos _), ← Nat.pow_add]; exact h
    have h2 := Bool.toNat_le (decide (2 ^ d < 2 * (n % 2 ^ d)) || (2 ^ d == 2 * (n % 2 ^ d) && n / 2 ^ d % 2 == 1))
    omega
  · rw [Nat.min_eq_right (by omega)]
    have h1 : n / 2 ^ (n.log2 + 2) = 0 := by
      apply Nat.div_eq_of_lt
      have := Nat.lt_log2_self (n := n)
      exact Nat.lt_trans this (Nat.pow_lt_pow_right (by decide) (by omega))
    have h2 := Bool.toNat_le (decide (2 ^ (n.log2 + 2) < 2 * (n % 2 ^ (n.log2 + 2))) || (2 ^ (n.log2 + 2) == 2 * (n % 2 ^ (n.log2 + 2)) && n / 2 ^ (n.log2 + 2) % 2 == 1))
    omega

theorem nearest_lo {s : Bool} {m : Nat} {i : Int} {k : Nat} (h : Lo m i k) (h0 : m ≠ 0) : ∃ r, double.nearest s m i = double.word s r ∧ r ≤ (k + 1024) * 2 ^ 52 := by
  have hl := h.lead h0
  have e1 : double.leastPlace = -1074 := by decide
  have e2 : double.fractionBits = 52 := rfl
  have e3 : double.binade = 2 ^ 52 := rfl
  unfold Format.nearest
  rw [if_neg h0]
  simp only [e1, e2, e3]
  refine ⟨_, rfl, Nat.le_trans (Nat.min_le_left _ _) ?_⟩
  have hL := Nat.lt_log2_self (n := m)
  generalize hla : max (i + (m.log2 : Int) - (52 : Nat)) (-1074) = last
  have b1 : last ≤ (k : Int) - 52 := by omega
  have b2 : i + m.log2 - 52 ≤ last := by omega
  have hk : Toward.even.cut s (m <<< (i - last).toNat) (last - i).toNat ≤ 2 ^ 53 := by
    apply cut_even_le
    rw [Nat.shiftLeft_eq]
    have h3 : m * 2 ^ (i - last).toNat < 2 ^ (m.log2 + 1) * 2 ^ (i - last).toNat := Nat.mul_lt_mul_of_pos_right hL (Nat.two_pow_pos _)
    rw [← Nat.pow_add] at h3
    exact Nat.lt_of_lt_of_le h3 (Nat.pow_le_pow_right (by decide) (by omega))
  have h4 : (last - -1074).toNat ≤ k + 1022 := by omega
  have h5 := Nat.mul_le_mul_right (2 ^ 52) h4
  have h6 : (k + 1024) * 2 ^ 52 = (k + 1022) * 2 ^ 52 + 2 ^ 53 := by omega
  rw [h6]; exact Nat.add_le_add h5 hk

theorem read_word {s : Bool} {r k : Nat} (h : r ≤ (k + 1024) * 2 ^ 52) (hk : k ≤ 900) : ∃ m i, double.read (double.word s r) = .number s m i ∧ Lo m i (k + 1) ∧ (r = 0 → m = 0) := by
  have hr : r < 2047 * 2 ^ 52 := by omega
  have e1 : double.leastPlace = -1074 := by decide
  have e3 : double.binade = 2 ^ 52 := rfl
  have e4 : double.signWeight = 2 ^ 63 := rfl
  have e5 : double.infRung = 2047 * 2 ^ 52 := by decide
  have hw : double.word s r % 2 ^ 63 = r ∧ (double.word s r / 2 ^ 63 % 2 == 1) = s := by
    unfold Format.word
    rw [e4]
    cases s <;> simp <;> omega
  unfold Format.read
  simp only [e1, e3, e4, e5, hw.1, hw.2]
  by_cases h1 : r < 2 ^ 52
  · rw [if_pos h1]
    refine ⟨r, _, rfl, ⟨0, 1074, by omega, ?_⟩, fun h => h⟩
    refine Nat.le_trans (m := 2 ^ 52) (by omega) (Nat.pow_le_pow_right (by decide) (by omega))
  · rw [if_neg h1, if_pos hr]
    refine ⟨_, _, rfl, ?_, fun h => by omega⟩
    have hq : r / 2 ^ 52 ≤ k + 1024 := by omega
    refine ⟨r / 2 ^ 52 - 1, 1074, by omega, ?_⟩
    by_cases h2 : r / 2 ^ 52 = k + 1024
    · have h3 : r % 2 ^ 52 = 0 := by omega
      rw [h2, h3, Nat.add_zero, ← Nat.pow_add]
      exact Nat.pow_le_pow_right (by decide) (by omega)
    · have h3 : 2 ^ 52 + r % 2 ^ 52 ≤ 2 ^ 53 := by omega
      refine Nat.le_trans (Nat.mul_le_mul_right _ h3) ?_
      rw [← Nat.pow_add]
      exact Nat.pow_le_pow_right (by decide) (by omega)

theorem toInt_lo {m : Nat} {i : Int} {k : Nat} (h : Lo m i k) : ∃ n : Nat, (Datum.number false m i).toInt .zero = some (n : Int) ∧ n ≤ 2 ^ k := by
  refine ⟨Toward.zero.cut false (m <<< i.toNat) (-i).toNat, by simp [Datum.toInt, Datum.integral, signed], ?_⟩
  unfold Toward.cut
  simp only [Nat.shiftLeft_eq, Nat.one_mul, Bool.toNat_false, Nat.add_zero]
  generalize hn : m * 2 ^ i.toNat = n
  have hb := h.any (a := i.toNat) (b := (-i).toNat) (by omega)
  rw [hn] at hb
  by_cases hd : (-i).toNat ≤ n.log2 + 2
  · rw [Nat.min_eq_left hd]
    apply Nat.div_le_of_le_mul
    rw [Nat.mul_comm, ← Nat.pow_add]; exact hb
  · rw [Nat.min_eq_right (by omega)]
    have h1 : n / 2 ^ (n.log2 + 2) = 0 := by
      apply Nat.div_eq_of_lt
      have := Nat.lt_log2_self (n := n)
      exact Nat.lt_trans this (Nat.pow_lt_pow_right (by decide) (by omega))
    rw [h1]; exact Nat.zero_le _

theorem toInt_zero (s : Bool) (i : Int) : (Datum.number s 0 i).toInt .zero = some 0 := by
  have : Toward.zero.cut s (0 <<< i.toNat) (-i).toNat = 0 := by unfold Toward.cut; simp
  simp only [Datum.toInt, Datum.integral, this]
  cases s <;> simp [signed]

/-- A word that is no less than 0 and no more than 1. -/
theorem unit_read {x : Nat} (ge : (double.order x 0 == some .gt || double.order x 0 == some .eq) = true) (le : (double.order x 4607182418800017408 == some .lt || double.order x 4607182418800017408 == some .eq) = true) :
    ∃ s m i, double.read x = .number s m i ∧ Lo m i 0 ∧ (s = false ∨ m = 0) := by
  have z : double.read 0 = .number false 0 (-1074) := by decide
  have o : double.read 4607182418800017408 = .number false 4503599627370496 (-52) := by decide +kernel
  unfold Format.order at ge le
  rw [z] at ge
  rw [o] at le
  cases hx : double.read x with
  | nan s t => rw [hx] at ge; exact absurd ge (by simp [Datum.order])
  | infinity s => rw [hx] at ge le; cases s <;> simp [Datum.order] at ge le
  | number s m i =>
    rw [hx] at ge le
    refine ⟨s, m, i, rfl, ?_⟩
    simp only [Datum.order] at ge le
    generalize hb : min i (-52) = b at le
    generalize hc : min i (-1074) = c at ge
    have hs : s = false ∨ m = 0 := by
      cases s
      · exact .inl rfl
      · right
        simp only [signed, if_true, Nat.shiftLeft_eq, Nat.zero_mul] at ge
        have hge : (0 : Int) ≤ -((m * 2 ^ (i - c).toNat : Nat) : Int) := by
          simp only [Bool.or_eq_true, beq_iff_eq, Option.some.injEq] at ge
          rcases ge with h | h
          · rw [Int.compare_eq_gt] at h; simp at h ⊢; omega
          · rw [Int.compare_eq_eq] at h; simp at h; simp [h]
        have hz : m * 2 ^ (i - c).toNat = 0 := by omega
        rcases Nat.mul_eq_zero.1 hz with h | h
        · exact h
        · exact absurd h (Nat.ne_of_gt (Nat.two_pow_pos _))
    refine ⟨?_, hs⟩
    rcases hs with rfl | rfl
    · simp only [signed, Nat.shiftLeft_eq] at le
      have hle : ((m * 2 ^ (i - b).toNat : Nat) : Int) ≤ ((4503599627370496 * 2 ^ (-52 - b).toNat : Nat) : Int) := by
        simp only [Bool.or_eq_true, beq_iff_eq, Option.some.injEq] at le
        rcases le with h | h
        · rw [Int.compare_eq_lt] at h; simp at h ⊢; omega
        · rw [Int.compare_eq_eq] at h; simp at h ⊢; omega
      have hle := Int.ofNat_le.1 hle
      refine ⟨(i - b).toNat, (-b).toNat, by omega, ?_⟩
      rw [show (4503599627370496 : Nat) = 2 ^ 52 by decide, ← Nat.pow_add] at hle
      rw [show 0 + (-b).toNat = 52 + (-52 - b).toNat by omega]
      exact hle
    · exact ⟨i.toNat, (-i).toNat, by omega, by simp⟩

/-- int64(float64(p) * x). -/
theorem due_n (p : Int) (x : Nat) (h1 : 1 ≤ p) (h2 : p ≤ 1152921504606846976) (ge : (double.order x 0 == some .gt || double.order x 0 == some .eq) = true) (le : (double.order x 4607182418800017408 == some .lt || double.order x 4607182418800017408 == some .eq) = true) :
    ∃ r n, floatBits .mul .f64 (floatOfInt .f64 p) x = some r ∧ floatToIntVal .f64 r .i64 = some n ∧ 0 ≤ n ∧ n ≤ 4611686018427387904 := by
  obtain ⟨s, m, i, hx, hlo, hs⟩ := unit_read ge le
  have hp : Lo p.natAbs 0 60 := ⟨0, 0, by omega, by simp; omega⟩
  obtain ⟨r0, hr0, hb0⟩ := nearest_lo (s := decide (p < 0)) hp (by omega)
  obtain ⟨m1, i1, hm1, hlo1, _⟩ := read_word (s := decide (p < 0)) hb0 (by decide)
  have hneg : decide (p < 0) = false := by simp; omega
  have hfl : double.read (floatOfInt .f64 p) = .number false m1 i1 := by
    show double.read (double.nearest (decide (p < 0)) p.natAbs 0) = _
    rw [hr0, hm1, hneg]
  have hmul : floatBits .mul .f64 (floatOfInt .f64 p) x = some (double.nearest s (m1 * m) (i1 + i)) := by
    show ((double.read (floatOfInt .f64 p)).product (double.read x)).map double.write = _
    rw [hfl, hx]
    simp [Datum.product, Format.write]
  have hlo2 := hlo1.mul hlo
  by_cases hz : m1 * m = 0
  · have hn : double.nearest s (m1 * m) (i1 + i) = double.word s 0 := by rw [hz]; simp [Format.nearest]
    obtain ⟨m2, i2, hm2, _, h0⟩ := read_word (s := s) (r := 0) (k := 0) (by omega) (by decide)
    refine ⟨_, 0, hmul, ?_, by decide, by decide⟩
    unfold floatToIntVal
    show (match (double.read (double.nearest s (m1 * m) (i1 + i))).toInt .zero with | some n => if IntKind.i64.min ≤ n ∧ n ≤ IntKind.i64.max then some n else none | none => none) = _
    rw [hn, hm2, h0 rfl, toInt_zero]
    decide
  · have hm : m ≠ 0 := fun h => hz (by rw [h, Nat.mul_zero])
    obtain rfl : s = false := by rcases hs with h | h; exact h; exact absurd h hm
    obtain ⟨r2, hr2, hb2⟩ := nearest_lo (s := false) hlo2 hz
    obtain ⟨m3, i3, hm3, hlo3, _⟩ := read_word (s := false) hb2 (by decide)
    obtain ⟨n, hn, hbn⟩ := toInt_lo hlo3
    have hbn : n ≤ 4611686018427387904 := Nat.le_trans hbn (by decide)
    refine ⟨_, n, hmul, ?_, by omega, by omega⟩
    unfold floatToIntVal
    show (match (double.read (double.nearest false (m1 * m) (i1 + i))).toInt .zero with | some n => if IntKind.i64.min ≤ n ∧ n ≤ IntKind.i64.max then some n else none | none => none) = _
    rw [hr2, hm3, hn]
    have e1 : IntKind.i64.min = -9223372036854775808 := by decide
    have e2 : IntKind.i64.max = 9223372036854775807 := by decide
    simp only [e1, e2]
    rw [if_pos (by omega)]

end Go.Proofs.Qxb6615843a
