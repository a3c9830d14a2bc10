import Derived.Test.Qxb6614728aGreatDoorWalkD
import Derived.BigRegion
import Derived.RegionTactic
import Derived.Deep.RegionHeld3
import Derived.Deep.DrawnRows
import Derived.Sort.Grow
namespace Go.Proofs.Qxb6614728aGreatDoor
open Go.RowKit

def cmpI (a b : Int) : Int := if a < b then -1 else if b < a then 1 else 0

theorem ret_int {k : IntKind} {a b : Int} (h : a = b) : Ending.returned (.int k a) = .returned (.int k b) := by rw [h]

set_option maxHeartbeats 400000 in
theorem compare_any (a b : Int) (w : World) : Calls Tryz.prog 27 #[.int .i64 a, .int .i64 b] w fun e w' => e = .returned (.int .i64 (cmpI a b)) ∧ w' = w := by
  by_cases h1 : a < b
  · go_enter Tryz.func27, Tryz.ntmps27
    go_wp2
    go_ret
    exact ⟨ret_int (by simp [cmpI, h1]), rfl⟩
  · by_cases h2 : b < a
    · go_enter Tryz.func27, Tryz.ntmps27
      go_wp2
      go_ret
      exact ⟨ret_int (by simp [cmpI, h1, h2]), rfl⟩
    · go_enter Tryz.func27, Tryz.ntmps27
      go_wp2
      go_ret
      exact ⟨ret_int (by unfold cmpI; rw [if_neg (by omega), if_neg (by omega)]), rfl⟩

def or3 (x y z : Int) : Int := if x = 0 then (if y = 0 then z else y) else x
theorem or3_z (z : Int) : or3 0 0 z = z := by simp [or3]
theorem or3_y {y z : Int} (h : y ≠ 0) : or3 0 y z = y := by simp [or3, h]
theorem or3_x {x y z : Int} (h : x ≠ 0) : or3 x y z = x := by simp [or3, h]

set_option maxHeartbeats 400000 in
theorem or_any (x y z : Int) (b : Nat) (w : World) (h0 : w.cell? ⟨b, 0, none⟩ = some (.int .i64 x)) (h1 : w.cell? ⟨b, 1, none⟩ = some (.int .i64 y)) (h2 : w.cell? ⟨b, 2, none⟩ = some (.int .i64 z)) :
    Calls Tryz.prog 26 #[.slice (some ⟨b, 0, none⟩) 3 3] w fun e w' => e = .returned (.int .i64 (or3 x y z)) ∧ w' = w := by
  by_cases e0 : x = 0
  · subst e0
    by_cases e1 : y = 0
    · subst e1
      rw [or3_z]
      by_cases e2 : z = 0
      · subst e2
        go_enter Tryz.func26, Tryz.ntmps26
        go_wp2
        refine wp_loop_rounds 4 ?_
        rw [rounds_succ]
        go_wp2
        rw [rounds_succ]
        go_wp2
        rw [rounds_succ]
        go_wp2
        rw [rounds_succ]
        go_wp2
        go_ret
        exact ⟨rfl, rfl⟩
      · have g : (z != 0) = true := by simpa using e2
        go_enter Tryz.func26, Tryz.ntmps26
        go_wp2
        refine wp_loop_rounds 4 ?_
        rw [rounds_succ]
        go_wp2
        rw [rounds_succ]
        go_wp2
        rw [rounds_succ]
        go_wp2
        go_ret
        exact ⟨rfl, rfl⟩
    · rw [or3_y e1]
      have g : (y != 0) = true := by simpa using e1
      go_enter Tryz.func26, Tryz.ntmps26
      go_wp2
      refine wp_loop_rounds 4 ?_
      rw [rounds_succ]
      go_wp2
      rw [rounds_succ]
      go_wp2
      go_ret
      exact ⟨rfl, rfl⟩
  · rw [or3_x e0]
    have g : (x != 0) = true := by simpa using e0
    go_enter Tryz.func26, Tryz.ntmps26
    go_wp2
    refine wp_loop_rounds 4 ?_
    rw [rounds_succ]
    go_wp2
    go_ret
    exact ⟨rfl, rfl⟩

/-- What the closure of the sort answers. -/
def cmpF (x y : F3) : Int := or3 (cmpI x.1 y.1) (cmpI x.2.1 y.2.1) (cmpI x.2.2 y.2.2)

attribute [local go_sem ↓] Go.wp_at_zero Go.wp_at_succ
set_option maxHeartbeats 1000000 in
theorem closure25 (x y : F3) (W : World) : Calls Tryz.prog 25 #[.agg #[.int .i64 x.1, .int .i64 x.2.1, .int .i64 x.2.2], .agg #[.int .i64 y.1, .int .i64 y.2.1, .int .i64 y.2.2]] W fun e w' => e = .returned (.int .i64 (cmpF x y)) ∧ ∃ q os', w' = Sort.grow (W.drewN q) os' := by
  have k0 : Hid (∀ w, Calls Tryz.prog 27 #[.int .i64 x.1, .int .i64 y.1] w fun e w' => e = .returned (.int .i64 (cmpI x.1 y.1)) ∧ w' = w) := fun w => compare_any _ _ w
  have k1 : Hid (∀ w, Calls Tryz.prog 27 #[.int .i64 x.2.1, .int .i64 y.2.1] w fun e w' => e = .returned (.int .i64 (cmpI x.2.1 y.2.1)) ∧ w' = w) := fun w => compare_any _ _ w
  have k2 : Hid (∀ w, Calls Tryz.prog 27 #[.int .i64 x.2.2, .int .i64 y.2.2] w fun e w' => e = .returned (.int .i64 (cmpI x.2.2 y.2.2)) ∧ w' = w) := fun w => compare_any _ _ w
  unfold cmpF
  go_enter Tryz.func25, Tryz.ntmps25
  go_wp2_with fail
  go_region_held3 (fun w' => w'.cell? ⟨W.heap.size, 0, none⟩ = some (.int .i64 x.1) ∧ w'.cell? ⟨W.heap.size, 1, none⟩ = some (.int .i64 x.2.1) ∧ w'.cell? ⟨W.heap.size, 2, none⟩ = some (.int .i64 x.2.2) ∧ w'.cell? ⟨W.heap.size + 1, 0, none⟩ = some (.int .i64 y.1) ∧ w'.cell? ⟨W.heap.size + 1, 1, none⟩ = some (.int .i64 y.2.1) ∧ w'.cell? ⟨W.heap.size + 1, 2, none⟩ = some (.int .i64 y.2.2)) (go_keep)
    (first | (go_at_call 27; refine (compare_any _ _ _).mono ?_; rintro e w' ⟨rfl, rfl⟩) | (go_at_call 26; refine (or_any (cmpI x.1 y.1) (cmpI x.2.1 y.2.1) (cmpI x.2.2 y.2.2) (W.heap.size + 2) _ ?_ ?_ ?_).mono ?_; (go_simp); (go_simp); (go_simp); rintro e w' ⟨rfl, rfl⟩))
  go_wp2
  go_ret
  exact ⟨rfl, 1, _, by rw [Sort.alloc_eq_grow, Sort.alloc_eq_grow, Sort.alloc_eq_grow, Sort.grow_grow, Sort.grow_grow]; rfl⟩

set_option maxHeartbeats 400000 in
theorem closure29 (x y : F3) (W : World) : Calls Tryz.prog 29 #[.agg #[.int .i64 x.1, .int .i64 x.2.1, .int .i64 x.2.2], .agg #[.int .i64 y.1, .int .i64 y.2.1, .int .i64 y.2.2]] W fun e w' => e = .returned (.bool (sameP x y)) ∧ ∃ q os', w' = Sort.grow (W.drewN q) os' := by
  cases h1 : (x.1 == y.1)
  · have h1' : Hid ((x.1 == y.1) = false) := h1
    go_enter Tryz.func29, Tryz.ntmps29
    go_wp2
    go_ret
    exact ⟨ret_bool (by unfold sameP; rw [h1'.out]; rfl), 0, _, by rw [Sort.alloc_eq_grow, Sort.alloc_eq_grow, Sort.grow_grow]; rfl⟩
  · have h1' : Hid ((x.1 == y.1) = true) := h1
    go_enter Tryz.func29, Tryz.ntmps29
    go_wp2
    go_ret
    exact ⟨ret_bool (by unfold sameP; rw [h1'.out, Bool.true_and]), 0, _, by rw [Sort.alloc_eq_grow, Sort.alloc_eq_grow, Sort.grow_grow]; rfl⟩
end Go.Proofs.Qxb6614728aGreatDoor
