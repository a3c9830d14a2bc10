import Derived.Test.Qxb6615779aWalkC
namespace Go.Proofs.Qxb6615779a
open Go.RowKit

theorem run_unique {zs : List Int} {p k k' : Nat} (h : IsRun zs p k) (h' : IsRun zs p k') : k = k' := by
  obtain ⟨a1, a2, a3⟩ := h
  obtain ⟨b1, b2, b3⟩ := h'
  rcases Nat.lt_trichotomy k k' with hl | he | hl
  · have x := a3 (by omega)
    rw [b2 (p + k) (by omega) (by omega)] at x
    cases x
  · exact he
  · have x := b3 (by omega)
    rw [a2 (p + k') (by omega) (by omega)] at x
    cases x

theorem getD_take {zs : List Int} {u i : Nat} (h : i < u) : (zs.take u).getD i 0 = zs.getD i 0 := by
  simp [List.getD_eq_getElem?_getD, List.getElem?_take_of_lt h]

theorem run_cut {zs : List Int} {s u k k2 k3 : Nat} (hsu : s ≤ u) (hu : u ≤ zs.length) (h : IsRun zs s k) (h2 : IsRun (zs.take u) s k2) (h3 : IsRun zs u k3) :
    (u - s ≤ k2 → k = u - s + k3) ∧ (k2 < u - s → k = k2) := by
  have hlen : (zs.take u).length = u := by simp; omega
  obtain ⟨b1, b2, b3⟩ := h2
  obtain ⟨c1, c2, c3⟩ := h3
  rw [hlen] at b1 b3
  refine ⟨fun hge => run_unique h ⟨by omega, fun i i1 i2 => ?_, fun hl => ?_⟩, fun hlt => run_unique h ⟨by omega, fun i i1 i2 => ?_, fun _ => ?_⟩⟩
  · by_cases hi : i < u
    · rw [← getD_take hi]; exact b2 i i1 (by omega)
    · exact c2 i (by omega) (by omega)
  · rw [show s + (u - s + k3) = u + k3 by omega] at hl ⊢
    exact c3 hl
  · rw [← getD_take (u := u) (by omega)]; exact b2 i i1 i2
  · rw [← getD_take (u := u) (by omega)]; exact b3 (by omega)
end Go.Proofs.Qxb6615779a
