import Derived.Test.Qxb6615843aTimeB
namespace Go.Proofs.Qxb6615843a
open Go.RowKit Go.Sort

set_option maxRecDepth 100000 in
set_option maxHeartbeats 400000 in
theorem isZeroT (x : Int) (w : World) : Calls Try.prog 14 #[tm x] w fun e w' => e = .returned (.bool (decide (x = 0))) ∧ Gr w w' := by
  obtain ⟨n, hn⟩ : ∃ n, Hid (x % 1000000000 = n) := ⟨_, rfl⟩
  obtain ⟨s, hs⟩ : ∃ n, Hid (x / 1000000000 = n) := ⟨_, rfl⟩
  unfold tm raw
  rw [hn.out, hs.out]
  by_cases h0 : n = 0
  · by_cases h1 : s = 0
    · have hx : Hid (decide (x = 0) = true) := by have := hn.out; have := hs.out; show decide (x = 0) = true; simp; omega
      have b0 : (n == 0) = true := by simp [h0]
      have b1 : (s == 0) = true := by simp [h1]
      clear h0 h1
      go_enter Try.func14, Try.ntmps14
      go_wp2
      go_ret
      exact ⟨by rw [hx.out]; rfl, (Gr.refl _).alloc _⟩
    · have hx : Hid (decide (x = 0) = false) := by have := hn.out; have := hs.out; show decide (x = 0) = false; simp; omega
      have b0 : (n == 0) = true := by simp [h0]
      have b1 : (s == 0) = false := by simp [h1]
      clear h0 h1
      go_enter Try.func14, Try.ntmps14
      go_wp2
      go_ret
      exact ⟨by rw [hx.out]; rfl, (Gr.refl _).alloc _⟩
  · have hx : Hid (decide (x = 0) = false) := by have := hn.out; have := hs.out; show decide (x = 0) = false; simp; omega
    have b0 : (n == 0) = false := by simp [h0]
    clear h0
    go_enter Try.func14, Try.ntmps14
    go_wp2
    go_ret
    exact ⟨by rw [hx.out]; rfl, (Gr.refl _).alloc _⟩

set_option maxRecDepth 100000 in
set_option maxHeartbeats 400000 in
theorem equalT (x : Int) (w : World) : Calls Try.prog 19 #[tm x, tm x] w fun e w' => e = .returned (.bool true) ∧ Gr w w' := by
  have n0 : 0 ≤ x % 1000000000 := by omega
  have n1 : x % 1000000000 < 1000000000 := by omega
  unfold tm raw
  generalize x % 1000000000 = n at n0 n1 ⊢
  generalize x / 1000000000 = s
  have hb := and_both n n n0 n1 n0 n1
  go_enter Try.func19, Try.ntmps19
  go_wp2_with fail
  refine (sec (n := n) (s := s) (by simp) (by simp) n0 n1).mono ?_
  rintro e w' ⟨rfl, rfl⟩
  go_wp2_with fail
  refine (sec (n := n) (s := s) (by simp) (by simp) n0 n1).mono ?_
  rintro e w' ⟨rfl, rfl⟩
  go_wp2_with fail
  refine (nsec (n := n) (by simp) n0 n1).mono ?_
  rintro e w' ⟨rfl, rfl⟩
  go_wp2_with fail
  refine (nsec (n := n) (by simp) n0 n1).mono ?_
  rintro e w' ⟨rfl, rfl⟩
  go_wp2_with fail
  go_ret
  exact ⟨rfl, ((Gr.refl _).alloc _).alloc _⟩
end Go.Proofs.Qxb6615843a
