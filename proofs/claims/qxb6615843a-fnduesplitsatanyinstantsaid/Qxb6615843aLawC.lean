import Derived.Test.Qxb6615843aLawB
namespace Go.Proofs.Qxb6615843a
open Go.RowKit Go.Sort

theorem inI_iff {x : Int} (h : inI x = true) : -2305843009213693952 ≤ x ∧ x ≤ 2305843009213693952 := by
  simpa [inI] using h

theorem inst_of (x : Int) (x1 : -9223372036854775808 ≤ x) (x2 : x < 9223372036854775808) : Inst x (x % 1000000000) (x / 1000000000) := fun W => instantT x W x1 x2

theorem wat_of (o : Int) : Wat (o % 1000000000) (o / 1000000000) := fun W => watcherAt o W

theorem due_zero (o : Int) (x : Nat) (p l t : Int) (h : p ≤ 0 ∨ l = 0) : Due (o % 1000000000) (o / 1000000000) x p (l % 1000000000) (l / 1000000000) (t % 1000000000) (t / 1000000000) true :=
  fun W k _ _ _ => zzdue k x p l t true W (fun W' _ => due_always k x p l t W' h.symm)

theorem due_two (o : Int) (x r : Nat) (p l t n : Int) (hp : 0 < p) (hl : l ≠ 0)
    (hm : floatBits .mul .f64 (floatOfInt .f64 p) x = some r) (hn : floatToIntVal .f64 r .i64 = some n)
    (n0 : 0 ≤ n) (n1 : n ≤ 4611686018427387904) (p1 : p ≤ 1152921504606846976) (oa : -2305843009213693952 ≤ o) (ob : o ≤ 2305843009213693952) (la : -2305843009213693952 ≤ l) (lb : l ≤ 2305843009213693952) (ta : -2305843009213693952 ≤ t) (tb : t ≤ 3458764513820540928) :
    Due (o % 1000000000) (o / 1000000000) x p (l % 1000000000) (l / 1000000000) (t % 1000000000) (t / 1000000000) (decide ((l - o + (p - n)) / p < (t - o + (p - n)) / p)) :=
  fun W k c6 c7 c8 => zzdue k x p l t _ W (fun W' g => due_main k x r p l t o n W' hp hl hm hn (g.cell c6) (g.cell c7) (g.cell c8) n0 n1 p1 oa ob la lb ta tb)

theorem law_any (o p l m t : Int) (x : Nat) (w : World) :
    Calls Try.prog 3 #[.int .i64 o, .float .f64 x, .int .i64 p, .int .i64 l, .int .i64 m, .int .i64 t] w fun e w' => e = .returned (.bool true) ∧ Gr w w' := by
  cases b0 : inI o
  · exact law_out o p l m t x w (.inl b0)
  cases b1 : inI l
  · exact law_out o p l m t x w (.inr (.inl b1))
  cases b2 : inI m
  · exact law_out o p l m t x w (.inr (.inr (.inl b2)))
  cases b3 : inI t
  · exact law_out o p l m t x w (.inr (.inr (.inr (.inl b3))))
  by_cases hp : 1152921504606846976 < p
  · exact law_out o p l m t x w (.inr (.inr (.inr (.inr hp))))
  obtain ⟨oa, ob⟩ := inI_iff b0
  obtain ⟨la, lb⟩ := inI_iff b1
  obtain ⟨ma, mb⟩ := inI_iff b2
  obtain ⟨ta, tb⟩ := inI_iff b3
  refine law_start o p l m t x w _ _ _ _ _ _ _ _ b0 b1 b2 b3 (by simp; omega) (inst_of o (by omega) (by omega)) (inst_of l (by omega) (by omega)) (inst_of m (by omega) (by omega)) (inst_of t (by omega) (by omega)) (wat_of o) (due_zero o x p l t) ?_
  intro hp0 hl ge le
  obtain ⟨r, n, hm, hn, n0, n1⟩ := due_n p x hp0 (by omega) ge le
  have D := fun a b ha a1 a2 b1 b2 => due_two o x r p a b n hp0 ha hm hn n0 n1 (by omega) oa ob a1 a2 b1 b2
  have mono : ∀ a b, a ≤ b → (a - o + (p - n)) / p ≤ (b - o + (p - n)) / p := fun a b h => Int.ediv_le_ediv hp0 (by omega)
  have step : (l + p - o + (p - n)) / p = (l - o + (p - n)) / p + 1 := by
    rw [show l + p - o + (p - n) = l - o + (p - n) + 1 * p by omega, Int.add_mul_ediv_right _ _ (by omega)]
  have Dll := D l l hl la lb la (by omega)
  have Dlp := D l (l + p) hl la lb (by omega) (by omega)
  rw [show decide ((l - o + (p - n)) / p < (l - o + (p - n)) / p) = false by simp] at Dll
  rw [step, show decide ((l - o + (p - n)) / p < (l - o + (p - n)) / p + 1) = true by simp; omega] at Dlp
  refine ⟨_, _, _, _, _, inst_of (l + p) (by omega) (by omega), by rw [IntKind.wrap_i64]; omega, Dll, Dlp, D l t hl la lb ta (by omega), D l m hl la lb ma (by omega), fun h => D m t h ma mb ta (by omega), ?_, ?_, ?_⟩
  · intro h
    have := mono t l h
    simp; omega
  · intro h
    have := mono (l + p) t h
    simp; omega
  · intro h1 h2
    have := mono l m h1
    have := mono m t h2
    rw [← Bool.decide_or]
    apply decide_eq_decide.2
    omega
end Go.Proofs.Qxb6615843a
