import Derived.Test.Qxb6614728aGreatDoorPlainB
import Derived.Lib.SlicesCompact
/-! Plain lists: what recut leaves of transactions and facts. -/
namespace Go.Proofs.Qxb6614728aGreatDoor

def sortI (zs : List Int) : List Int := zs.mergeSort fun x y => decide (x ≤ y)
def ltF (x y : F3) : Bool := decide (x.1 < y.1 ∨ (x.1 = y.1 ∧ (x.2.1 < y.2.1 ∨ (x.2.1 = y.2.1 ∧ x.2.2 < y.2.2))))
def sortF (fs : List F3) : List F3 := fs.mergeSort fun x y => !ltF y x
def outT (zs : List Int) : List Int := Lib.compact (sortI zs)
def outF (fs : List F3) : List F3 := compF (sortF fs)
def pairLess (x y : F3) : Bool := if x.1 = y.1 then decide (x.2.1 < y.2.1) else decide (x.1 < y.1)

theorem sortI_mem (zs : List Int) (x : Int) : x ∈ sortI zs ↔ x ∈ zs := (List.mergeSort_perm zs _).mem_iff
theorem sortF_mem (fs : List F3) (x : F3) : x ∈ sortF fs ↔ x ∈ fs := (List.mergeSort_perm fs _).mem_iff
theorem sortI_sorted (zs : List Int) : (sortI zs).Pairwise (· ≤ ·) := by
  have := List.pairwise_mergeSort (le := fun x y : Int => decide (x ≤ y)) (fun a b c h1 h2 => by simp at *; omega) (fun a b => by simp; omega) zs
  simpa [sortI] using this
theorem sortF_sorted (fs : List F3) : (sortF fs).Pairwise (fun x y => ltF y x = false) := by
  have := List.pairwise_mergeSort (le := fun x y : F3 => !ltF y x) (fun a b c h1 h2 => by simp only [ltF, Bool.not_eq_true', decide_eq_false_iff_not] at *; omega) (fun a b => by simp only [ltF, Bool.or_eq_true, Bool.not_eq_true', decide_eq_false_iff_not]; omega) fs
  simpa [sortF] using this

/-! The transactions. -/
theorem mem_outT (zs : List Int) (x : Int) : x ∈ outT zs ↔ x ∈ zs := by
  rw [← sortI_mem zs x]
  have hs := sortI_sorted zs
  unfold outT
  generalize sortI zs = L at *
  have hlt : ∀ i j (hi : i < L.length) (hj : j < L.length), i < j → L[i] ≤ L[j] := fun i j hi hj h => List.pairwise_iff_getElem.1 hs i j hi hj h
  simp only [Lib.compact, Lib.compactUpTo, List.mem_map, List.mem_filter, List.mem_range]
  constructor
  · rintro ⟨j, ⟨hj, _⟩, rfl⟩
    simp [hj]
  · intro hx
    obtain ⟨m, hm, rfl⟩ := List.getElem_of_mem hx
    -- the least index with that value
    have key : ∀ n, ∀ m (hm : m < L.length), m ≤ n → ∃ j, j < L.length ∧ Lib.keeps L.toArray j = true ∧ L.toArray[j]! = L[m] := by
      intro n
      induction n with
      | zero =>
        intro m hm h0
        obtain rfl : m = 0 := by omega
        exact ⟨0, hm, by simp [Lib.keeps], by simp [hm]⟩
      | succ n ih =>
        intro m hm h0
        by_cases hz : m = 0
        · subst hz; exact ⟨0, hm, by simp [Lib.keeps], by simp [hm]⟩
        · by_cases he : L[m] = L[m - 1]'(by omega)
          · obtain ⟨j, h1, h2, h3⟩ := ih (m - 1) (by omega) (by omega)
            exact ⟨j, h1, h2, by rw [h3, he]⟩
          · refine ⟨m, hm, ?_, by simp [hm]⟩
            simp only [Lib.keeps, decide_eq_true_eq]
            right
            simpa [hm, show m - 1 < L.length by omega] using he
    obtain ⟨j, h1, h2, h3⟩ := key m m hm (Nat.le_refl _)
    exact ⟨j, ⟨h1, h2⟩, h3⟩
theorem outT_sorted (zs : List Int) : (outT zs).Pairwise (· < ·) := by
  have hs := sortI_sorted zs
  unfold outT
  generalize sortI zs = L at *
  have hle : ∀ i j (hi : i < L.length) (hj : j < L.length), i ≤ j → L[i] ≤ L[j] := fun i j hi hj h => by
    rcases Nat.lt_or_ge i j with h' | h'
    · exact List.pairwise_iff_getElem.1 hs i j hi hj h'
    · obtain rfl : i = j := by omega
      exact Int.le_refl _
  unfold Lib.compact Lib.compactUpTo
  rw [List.pairwise_map]
  have hr : ((List.range L.length).filter (Lib.keeps L.toArray)).Pairwise (· < ·) := List.Pairwise.filter _ List.pairwise_lt_range
  refine List.pairwise_iff_getElem.2 fun i j hi hj hij => ?_
  have h1 := List.pairwise_iff_getElem.1 hr i j hi hj hij
  have m1 := List.getElem_mem hi
  have m2 := List.getElem_mem hj
  generalize ((List.range L.length).filter (Lib.keeps L.toArray))[i] = a at *
  generalize ((List.range L.length).filter (Lib.keeps L.toArray))[j] = b at *
  simp only [List.mem_filter, List.mem_range, Lib.keeps, decide_eq_true_eq] at m1 m2
  rcases m2.2 with h | h
  · omega
  · have ha := m1.1
    have hb := m2.1
    have hb1 : b - 1 < L.length := by omega
    simp [ha, hb, hb1] at h ⊢
    have g1 := hle a (b - 1) ha hb1 (by omega)
    have g2 := hle (b - 1) b hb1 hb (by omega)
    omega

/-- Strictly ascending lists of the same elements are one list. -/
theorem asc_unique (A B : List Int) (hA : A.Pairwise (· < ·)) (hB : B.Pairwise (· < ·)) (h : ∀ x, x ∈ A ↔ x ∈ B) : A = B := by
  induction A generalizing B with
  | nil =>
    cases B with
    | nil => rfl
    | cons b t => exact absurd ((h b).2 (by simp)) (by simp)
  | cons a s ih =>
    cases B with
    | nil => exact absurd ((h a).1 (by simp)) (by simp)
    | cons b t =>
      rw [List.pairwise_cons] at hA hB
      have hab : a = b := by
        rcases List.mem_cons.1 ((h a).1 (by simp)) with e | e
        · exact e
        · rcases List.mem_cons.1 ((h b).2 (by simp)) with e' | e'
          · exact e'.symm
          · have := hA.1 b e'
            have := hB.1 a e
            omega
      subst hab
      congr 1
      refine ih t hA.2 hB.2 fun x => ?_
      constructor
      · intro hx
        rcases List.mem_cons.1 ((h x).1 (List.mem_cons_of_mem _ hx)) with e | e
        · have := hA.1 x hx; omega
        · exact e
      · intro hx
        rcases List.mem_cons.1 ((h x).2 (List.mem_cons_of_mem _ hx)) with e | e
        · have := hB.1 x hx; omega
        · exact e
theorem outT_rev (zs : List Int) : outT zs.reverse = outT zs :=
  asc_unique _ _ (outT_sorted _) (outT_sorted _) fun x => by rw [mem_outT, mem_outT, List.mem_reverse]
theorem outT_idem (zs : List Int) : outT (outT zs) = outT zs :=
  asc_unique _ _ (outT_sorted _) (outT_sorted _) fun x => by rw [mem_outT]

/-! The facts. -/
theorem pl_iff (x y : F3) : pairLess x y = true ↔ x.1 < y.1 ∨ (x.1 = y.1 ∧ x.2.1 < y.2.1) := by
  unfold pairLess
  split <;> simp <;> omega
theorem same_iff (x y : F3) : sameP x y = true ↔ x.1 = y.1 ∧ x.2.1 = y.2.1 := by simp [sameP]
theorem ltF_iff (x y : F3) : ltF x y = false ↔ ¬ (x.1 < y.1 ∨ (x.1 = y.1 ∧ (x.2.1 < y.2.1 ∨ (x.2.1 = y.2.1 ∧ x.2.2 < y.2.2)))) := by simp only [ltF, decide_eq_false_iff_not]
theorem same_not (x y : F3) : sameP x y = false ↔ ¬ (x.1 = y.1 ∧ x.2.1 = y.2.1) := by
  rw [← same_iff]; simp

theorem kpFrom_mem (p : F3) (L : List F3) (y : F3) (h : y ∈ kpFrom p L) : y ∈ L := by
  induction L generalizing p with
  | nil => simp [kpFrom] at h
  | cons a t ih =>
    unfold kpFrom at h
    split at h
    · exact List.mem_cons_of_mem _ (ih a h)
    · rcases List.mem_cons.1 h with e | e
      · rw [e]; simp
      · exact List.mem_cons_of_mem _ (ih a e)
theorem kpFrom_asc (p : F3) (L : List F3) (hs : (p :: L).Pairwise (fun x y => ltF y x = false)) :
    (∀ y ∈ kpFrom p L, pairLess p y = true) ∧ (kpFrom p L).Pairwise (fun x y => pairLess x y = true) ∧ (∀ y ∈ kpFrom p L, ∀ g ∈ L, sameP g y = true → y.2.2 ≤ g.2.2) ∧ (∀ g ∈ L, sameP g p = true ∨ ∃ y ∈ kpFrom p L, sameP y g = true) := by
  induction L generalizing p with
  | nil => simp [kpFrom]
  | cons a t ih =>
    rw [List.pairwise_cons] at hs
    obtain ⟨h1, h2, h3, h4⟩ := ih a hs.2
    have hpa := (ltF_iff _ _).1 (hs.1 a (by simp))
    have hat := fun g hg => (ltF_iff _ _).1 ((List.pairwise_cons.1 hs.2).1 g hg)
    unfold kpFrom
    split
    · rename_i hsame
      rw [same_iff] at hsame
      refine ⟨fun y hy => ?_, h2, fun y hy g hg hgy => ?_, fun g hg => ?_⟩
      · have := (pl_iff _ _).1 (h1 y hy)
        rw [pl_iff]; omega
      · rcases List.mem_cons.1 hg with e | e
        · have := (pl_iff _ _).1 (h1 y hy)
          rw [same_iff] at hgy
          rw [e] at hgy
          omega
        · exact h3 y hy g e hgy
      · rcases List.mem_cons.1 hg with e | e
        · left; rw [same_iff, e]; exact hsame
        · rcases h4 g e with h | h
          · left; rw [same_iff] at h ⊢; omega
          · exact .inr h
    · rename_i hsame
      have hsame' : ¬ (a.1 = p.1 ∧ a.2.1 = p.2.1) := by rw [← same_iff]; exact hsame
      have hpl : pairLess p a = true := by rw [pl_iff]; omega
      refine ⟨fun y hy => ?_, ?_, fun y hy g hg hgy => ?_, fun g hg => ?_⟩
      · rcases List.mem_cons.1 hy with e | e
        · rw [e]; exact hpl
        · have := (pl_iff _ _).1 (h1 y e)
          rw [pl_iff] at hpl ⊢; omega
      · rw [List.pairwise_cons]; exact ⟨h1, h2⟩
      · rw [same_iff] at hgy
        rcases List.mem_cons.1 hy with e | e
        · rcases List.mem_cons.1 hg with e' | e'
          · rw [e, e']; omega
          · have := hat g e'
            rw [e] at hgy ⊢
            omega
        · rcases List.mem_cons.1 hg with e' | e'
          · have := (pl_iff _ _).1 (h1 y e)
            rw [e'] at hgy
            omega
          · exact h3 y e g e' ((same_iff _ _).2 hgy)
      · right
        rcases List.mem_cons.1 hg with e | e
        · exact ⟨a, by simp, by rw [e, same_iff]; exact ⟨rfl, rfl⟩⟩
        · rcases h4 g e with h | ⟨y, hy, h⟩
          · refine ⟨a, by simp, ?_⟩
            rw [same_iff] at h ⊢; omega
          · exact ⟨y, List.mem_cons_of_mem _ hy, h⟩
theorem compF_all (L : List F3) (hs : L.Pairwise (fun x y => ltF y x = false)) :
    (∀ y ∈ compF L, y ∈ L) ∧ (compF L).Pairwise (fun x y => pairLess x y = true) ∧ (∀ y ∈ compF L, ∀ g ∈ L, sameP g y = true → y.2.2 ≤ g.2.2) ∧ (∀ g ∈ L, ∃ y ∈ compF L, sameP y g = true) := by
  cases L with
  | nil => simp [compF]
  | cons p t =>
    obtain ⟨h1, h2, h3, h4⟩ := kpFrom_asc p t hs
    have hpt := fun g hg => (ltF_iff _ _).1 ((List.pairwise_cons.1 hs).1 g hg)
    unfold compF
    refine ⟨fun y hy => ?_, ?_, fun y hy g hg hgy => ?_, fun g hg => ?_⟩
    · rcases List.mem_cons.1 hy with e | e
      · rw [e]; simp
      · exact List.mem_cons_of_mem _ (kpFrom_mem p t y e)
    · rw [List.pairwise_cons]; exact ⟨h1, h2⟩
    · rw [same_iff] at hgy
      rcases List.mem_cons.1 hy with e | e
      · rcases List.mem_cons.1 hg with e' | e'
        · rw [e, e']; omega
        · have := hpt g e'
          rw [e] at hgy ⊢
          omega
      · rcases List.mem_cons.1 hg with e' | e'
        · have := (pl_iff _ _).1 (h1 y e)
          rw [e'] at hgy
          omega
        · exact h3 y e g e' ((same_iff _ _).2 hgy)
    · rcases List.mem_cons.1 hg with e | e
      · exact ⟨p, by simp, by rw [e, same_iff]; exact ⟨rfl, rfl⟩⟩
      · rcases h4 g e with h | ⟨y, hy, h⟩
        · refine ⟨p, by simp, ?_⟩
          rw [same_iff] at h ⊢; omega
        · exact ⟨y, List.mem_cons_of_mem _ hy, h⟩

theorem outF_mem (fs : List F3) (y : F3) (h : y ∈ outF fs) : y ∈ fs := (sortF_mem fs y).1 ((compF_all _ (sortF_sorted fs)).1 y h)
theorem outF_asc (fs : List F3) : (outF fs).Pairwise (fun x y => pairLess x y = true) := (compF_all _ (sortF_sorted fs)).2.1
theorem outF_least (fs : List F3) (y g : F3) (h : y ∈ outF fs) (hg : g ∈ fs) (hs : sameP g y = true) : y.2.2 ≤ g.2.2 := (compF_all _ (sortF_sorted fs)).2.2.1 y h g ((sortF_mem fs g).2 hg) hs
theorem outF_cover (fs : List F3) (g : F3) (hg : g ∈ fs) : ∃ y ∈ outF fs, sameP y g = true := (compF_all _ (sortF_sorted fs)).2.2.2 g ((sortF_mem fs g).2 hg)
theorem mem_outF (fs : List F3) (f : F3) : f ∈ outF fs ↔ f ∈ fs ∧ ∀ g ∈ fs, sameP g f = true → f.2.2 ≤ g.2.2 := by
  constructor
  · intro h
    exact ⟨outF_mem fs f h, fun g hg hs => outF_least fs f g h hg hs⟩
  · rintro ⟨h1, h2⟩
    obtain ⟨y, hy, hs⟩ := outF_cover fs f h1
    have g1 := outF_least fs y f hy h1 (by rw [same_iff] at hs ⊢; omega)
    have g2 := h2 y (outF_mem fs y hy) hs
    rw [same_iff] at hs
    obtain ⟨a, b, c⟩ := f
    obtain ⟨a', b', c'⟩ := y
    simp only at hs g1 g2
    obtain rfl : a' = a := hs.1
    obtain rfl : b' = b := hs.2
    obtain rfl : c' = c := by omega
    exact hy
theorem ascF_unique (A B : List F3) (hA : A.Pairwise (fun x y => pairLess x y = true)) (hB : B.Pairwise (fun x y => pairLess x y = true)) (h : ∀ x, x ∈ A ↔ x ∈ B) : A = B := by
  induction A generalizing B with
  | nil =>
    cases B with
    | nil => rfl
    | cons b t => exact absurd ((h b).2 (by simp)) (by simp)
  | cons a s ih =>
    cases B with
    | nil => exact absurd ((h a).1 (by simp)) (by simp)
    | cons b t =>
      rw [List.pairwise_cons] at hA hB
      have hab : a = b := by
        rcases List.mem_cons.1 ((h a).1 (by simp)) with e | e
        · exact e
        · rcases List.mem_cons.1 ((h b).2 (by simp)) with e' | e'
          · exact e'.symm
          · have h1 := (pl_iff _ _).1 (hA.1 b e')
            have h2 := (pl_iff _ _).1 (hB.1 a e)
            omega
      subst hab
      congr 1
      refine ih t hA.2 hB.2 fun x => ?_
      constructor
      · intro hx
        rcases List.mem_cons.1 ((h x).1 (List.mem_cons_of_mem _ hx)) with e | e
        · have := (pl_iff _ _).1 (hA.1 x hx); rw [e] at this; omega
        · exact e
      · intro hx
        rcases List.mem_cons.1 ((h x).2 (List.mem_cons_of_mem _ hx)) with e | e
        · have := (pl_iff _ _).1 (hB.1 x hx); rw [e] at this; omega
        · exact e
theorem outF_rev (fs : List F3) : outF fs.reverse = outF fs :=
  ascF_unique _ _ (outF_asc _) (outF_asc _) fun x => by rw [mem_outF, mem_outF]; simp only [List.mem_reverse]
/-- In a strictly ascending list a pair stands once. -/
theorem asc_once (A : List F3) (hA : A.Pairwise (fun x y => pairLess x y = true)) (x y : F3) (hx : x ∈ A) (hy : y ∈ A) (hs : sameP x y = true) : x = y := by
  obtain ⟨i, hi, rfl⟩ := List.getElem_of_mem hx
  obtain ⟨j, hj, rfl⟩ := List.getElem_of_mem hy
  rw [same_iff] at hs
  rcases Nat.lt_trichotomy i j with h | h | h
  · have := (pl_iff _ _).1 (List.pairwise_iff_getElem.1 hA i j hi hj h); omega
  · subst h; rfl
  · have := (pl_iff _ _).1 (List.pairwise_iff_getElem.1 hA j i hj hi h); omega
theorem outF_idem (fs : List F3) : outF (outF fs) = outF fs :=
  ascF_unique _ _ (outF_asc _) (outF_asc _) fun x => by
    rw [mem_outF (outF fs)]
    exact ⟨fun h => h.1, fun h => ⟨h, fun g hg hs => by rw [asc_once _ (outF_asc fs) g x hg h hs]; exact Int.le_refl _⟩⟩
end Go.Proofs.Qxb6614728aGreatDoor
