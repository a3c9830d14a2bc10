import GoSem.Core.Value
/-! Plain lists: no program. -/
namespace Go.Proofs.Qxb6614728aGreatDoor

/-- A reversal under way: k elements have been laid from the end. -/
def rv {α : Type} (z : α) (zs : List α) (k : Nat) : List α := List.replicate (zs.length - k) z ++ (zs.take k).reverse
theorem rv_len {α : Type} (z : α) (zs : List α) (k : Nat) (hk : k ≤ zs.length) : (rv z zs k).length = zs.length := by simp [rv]; omega
theorem rv_zero {α : Type} (z : α) (zs : List α) : rv z zs 0 = List.replicate zs.length z := by simp [rv]
theorem rv_end {α : Type} (z : α) (zs : List α) : rv z zs zs.length = zs.reverse := by simp [rv]
theorem rv_set {α : Type} (z : α) (zs : List α) (k : Nat) (hk : k < zs.length) : (rv z zs k).set (zs.length - 1 - k) zs[k] = rv z zs (k + 1) := by
  unfold rv
  have e1 : List.replicate (zs.length - k) z = List.replicate (zs.length - (k + 1)) z ++ [z] := by
    rw [show zs.length - k = zs.length - (k + 1) + 1 by omega, List.replicate_succ']
  rw [e1, List.take_succ_eq_append_getElem hk, List.append_assoc, List.set_append_right _ _ (by simp; omega)]
  simp
  rw [show zs.length - 1 - k - (zs.length - (k + 1)) = 0 by omega, List.take_succ_eq_append_getElem hk, List.reverse_append]
  rfl

abbrev F3 := Int × Int × Int
def enc3 (f : F3) : List Value := [.int .i64 f.1, .int .i64 f.2.1, .int .i64 f.2.2]
def flat (L : List F3) : List Value := L.flatMap enc3
theorem flat_len (L : List F3) : (flat L).length = L.length * 3 := by
  induction L with
  | nil => rfl
  | cons a t ih => simp only [flat, List.flatMap_cons, List.length_append] at *; rw [ih]; simp [enc3]; omega
theorem flat_append (L M : List F3) : flat (L ++ M) = flat L ++ flat M := by simp [flat]
theorem flat_set (L : List F3) (j : Nat) (f : F3) (hj : j < L.length) : (((flat L).set (j * 3) (.int .i64 f.1)).set (j * 3 + 1) (.int .i64 f.2.1)).set (j * 3 + 2) (.int .i64 f.2.2) = flat (L.set j f) := by
  induction L generalizing j with
  | nil => simp at hj
  | cons a t ih =>
    cases j with
    | zero => simp [flat, enc3]
    | succ j =>
      have := ih j (by simpa using hj)
      have e : flat (a :: t) = .int .i64 a.1 :: .int .i64 a.2.1 :: .int .i64 a.2.2 :: flat t := by simp [flat, enc3]
      have e2 : flat ((a :: t).set (j + 1) f) = .int .i64 a.1 :: .int .i64 a.2.1 :: .int .i64 a.2.2 :: flat (t.set j f) := by simp [flat, enc3]
      rw [e, e2, ← this]
      rw [show (j + 1) * 3 = j * 3 + 3 by omega]
      simp only [List.set_cons_succ]
theorem flat_get (L : List F3) (j : Nat) (hj : j < L.length) : (flat L)[j * 3]? = some (.int .i64 L[j].1) ∧ (flat L)[j * 3 + 1]? = some (.int .i64 L[j].2.1) ∧ (flat L)[j * 3 + 2]? = some (.int .i64 L[j].2.2) := by
  induction L generalizing j with
  | nil => simp at hj
  | cons a t ih =>
    have e : flat (a :: t) = .int .i64 a.1 :: .int .i64 a.2.1 :: .int .i64 a.2.2 :: flat t := by simp [flat, enc3]
    cases j with
    | zero => simp [e]
    | succ j =>
      have := ih j (by simpa using hj)
      rw [e, show (j + 1) * 3 = j * 3 + 3 by omega]
      simpa using this
theorem flat_rep (n : Nat) : flat (List.replicate n (0, 0, 0)) = List.replicate (n * 3) (.int .i64 0) := by
  induction n with
  | zero => rfl
  | succ n ih =>
    rw [List.replicate_succ, show (n + 1) * 3 = n * 3 + 1 + 1 + 1 by omega, List.replicate_succ, List.replicate_succ, List.replicate_succ, ← ih]
    simp [flat, enc3]
end Go.Proofs.Qxb6614728aGreatDoor
