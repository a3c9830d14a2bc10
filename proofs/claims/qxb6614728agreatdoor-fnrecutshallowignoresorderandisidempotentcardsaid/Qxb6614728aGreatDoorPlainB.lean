import Derived.Test.Qxb6614728aGreatDoorPlainA
/-! Plain lists: what slices.CompactFunc leaves. -/
namespace Go.Proofs.Qxb6614728aGreatDoor

def sameP (x y : F3) : Bool := (x.1 == y.1) && (x.2.1 == y.2.1)

def kpFrom (prev : F3) : List F3 → List F3
  | [] => []
  | x :: t => if sameP x prev then kpFrom x t else x :: kpFrom x t
/-- Of each run of neighbours with one pair: the first. -/
def compF : List F3 → List F3
  | [] => []
  | x :: t => x :: kpFrom x t

theorem kpFrom_snoc (p : F3) (L : List F3) (x : F3) : kpFrom p (L ++ [x]) = kpFrom p L ++ (if sameP x (L.getLast?.getD p) then [] else [x]) := by
  induction L generalizing p with
  | nil => rfl
  | cons a t ih =>
    have e : (a :: t).getLast?.getD p = t.getLast?.getD a := by cases t <;> simp [List.getLast?_cons]
    rw [e]
    show (if sameP a p then kpFrom a (t ++ [x]) else a :: kpFrom a (t ++ [x])) = (if sameP a p then kpFrom a t else a :: kpFrom a t) ++ _
    rw [ih a]
    split <;> simp
theorem compF_snoc (L : List F3) (x : F3) (h : L ≠ []) : compF (L ++ [x]) = compF L ++ (if sameP x (L.getLast h) then [] else [x]) := by
  cases L with
  | nil => exact absurd rfl h
  | cons a t =>
    have e : (a :: t).getLast h = t.getLast?.getD a := by rw [List.getLast_eq_iff_getLast?_eq_some, List.getLast?_cons]
    rw [e]
    show a :: kpFrom a (t ++ [x]) = a :: kpFrom a t ++ _
    rw [kpFrom_snoc]
    rfl
theorem compF_take (fs : List F3) (m : Nat) (h : m + 1 < fs.length) : compF (fs.take (m + 2)) = compF (fs.take (m + 1)) ++ (if sameP fs[m + 1] fs[m] then [] else [fs[m + 1]]) := by
  have hne : fs.take (m + 1) ≠ [] := by
    intro e
    rw [List.take_eq_nil_iff] at e
    rcases e with e | e
    · omega
    · subst e; simp at h
  rw [show m + 2 = m + 1 + 1 from rfl, List.take_succ_eq_append_getElem h, compF_snoc _ _ hne]
  have : (fs.take (m + 1)).getLast hne = fs[m] := by
    rw [List.getLast_eq_getElem]
    simp [Nat.min_eq_left (Nat.le_of_lt h)]
  rw [this]
theorem kpFrom_len (p : F3) (L : List F3) : (kpFrom p L).length ≤ L.length := by
  induction L generalizing p with
  | nil => simp [kpFrom]
  | cons a t ih =>
    unfold kpFrom
    have := ih a
    split <;> simp <;> omega
theorem compF_len (L : List F3) : (compF L).length ≤ L.length := by
  cases L with
  | nil => simp [compF]
  | cons a t => have := kpFrom_len a t; simp [compF]; omega
theorem compF_one (fs : List F3) (h : fs.length ≤ 1) : compF fs = fs := by
  match fs, h with
  | [], _ => rfl
  | [a], _ => rfl
theorem set_take {α : Type} (L : List α) (k : Nat) (x : α) (h : k < L.length) : (L.set k x).take (k + 1) = L.take k ++ [x] := by
  rw [List.take_succ_eq_append_getElem (by simpa using h), List.take_set_of_le (Nat.le_refl _)]
  simp
theorem set_far {α : Type} (L : List α) (k : Nat) (x : α) (j : Nat) (h : j < (L.set k x).length) (hj : k ≠ j) : (L.set k x)[j] = L[j]'(by simpa using h) := by
  rw [List.getElem_set_ne hj]
end Go.Proofs.Qxb6614728aGreatDoor
