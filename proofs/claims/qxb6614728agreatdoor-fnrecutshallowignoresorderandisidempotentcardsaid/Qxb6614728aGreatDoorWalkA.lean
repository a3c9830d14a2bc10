import Derived.Test.Qxb6614728aGreatDoorProg
import Derived.WalkKit
import Derived.WalkLawsBesides
import Derived.Below
import Derived.Outline
namespace Go.Proofs.Qxb6614728aGreatDoor
open Go.RowKit

theorem ret_bool {a b : Bool} (h : a = b) : Ending.returned (.bool a) = .returned (.bool b) := by rw [h]

/-- A slice of ints: what its cells hold up to its length. -/
def IntsAt (w : World) (a : Option Addr) (zs : List Int) : Prop :=
  zs = [] ∨ ∃ b off, a = some ⟨b, off, none⟩ ∧ b < w.heap.size ∧ ∀ j, j < zs.length → w.cell? ⟨b, off + j, none⟩ = some (.int .i64 (zs.getD j 0))

def hasB (zs : List Int) (x : Int) : Bool := zs.any fun y => y == x
theorem hasB_succ (zs : List Int) (x : Int) (k : Nat) (hk : k < zs.length) : hasB (zs.take (k + 1)) x = (hasB (zs.take k) x || (zs[k] == x)) := by
  unfold hasB
  rw [List.take_succ_eq_append_getElem hk, List.any_append]
  simp
theorem hasB_true (zs : List Int) (x : Int) (k : Nat) (hk : k < zs.length) (h : (zs[k] == x) = true) : hasB zs x = true := by
  unfold hasB
  rw [List.any_eq_true]
  exact ⟨zs[k], List.getElem_mem hk, h⟩

set_option maxHeartbeats 400000 in
theorem has_some (b off cap : Nat) (zs : List Int) (x : Int) (w : World) (hm : zs.length ≤ 4096) (hc : ∀ j, j < zs.length → w.cell? ⟨b, off + j, none⟩ = some (.int .i64 (zs.getD j 0))) :
    Calls Tryz.prog 9 #[.slice (some ⟨b, off, none⟩) zs.length cap, .int .i64 x] w fun e w' => e = .returned (.bool (hasB zs x)) ∧ w' = w := by
  go_enter Tryz.func9, Tryz.ntmps9
  go_wp2
  go_loop [5] (fun i => ∃ k : Nat, k ≤ zs.length ∧ i = .int .i64 k ∧ hasB (zs.take k) x = false) (fun i => zs.length - (intOf i).toNat)
  case atStart => exact ⟨0, Nat.zero_le _, rfl, rfl⟩
  case round =>
    obtain ⟨k, hk, rfl, hno⟩ := hrel
    have hcell : k < zs.length → w.cell? ⟨b, off + k, none⟩ = some (.int .i64 (zs.getD k 0)) := fun h => hc k h
    have H : Hid (hasB (zs.take k) x = false) := hno
    clear hno
    go_wp2
    · go_ret
      exact ⟨ret_bool (hasB_true zs x k ‹_› ‹_›).symm, rfl⟩
    · go_round
      case rel => exact ⟨k + 1, by omega, by go_num, by rw [hasB_succ zs x k ‹_›, H.out]; simp [*]⟩
      case measure => simp [intOf]; omega
    · go_ret
      exact ⟨ret_bool (by have := H.out; rw [List.take_of_length_le (by omega)] at this; exact this.symm), rfl⟩

set_option maxHeartbeats 400000 in
theorem has_nil (a : Option Addr) (cap : Nat) (x : Int) (w : World) :
    Calls Tryz.prog 9 #[.slice a 0 cap, .int .i64 x] w fun e w' => e = .returned (.bool (hasB [] x)) ∧ w' = w := by
  go_enter Tryz.func9, Tryz.ntmps9
  go_wp2
  refine wp_loop_rounds 1 ?_
  rw [rounds_succ]
  go_wp2
  go_ret
  exact ⟨rfl, rfl⟩

theorem has_any (a : Option Addr) (cap : Nat) (zs : List Int) (x : Int) (w : World) (h : IntsAt w a zs) (hm : zs.length ≤ 4096) :
    Calls Tryz.prog 9 #[.slice a zs.length cap, .int .i64 x] w fun e w' => e = .returned (.bool (hasB zs x)) ∧ w' = w := by
  rcases h with rfl | ⟨b, off, rfl, _, hc⟩
  · exact has_nil a cap x w
  · exact has_some b off cap zs x w hm hc

/-- zzBytes of the first law. -/
def fits (a b c : Nat) : Bool := decide (a + b + c ≤ 1048576)

set_option maxHeartbeats 400000 in
theorem bytes5 (g d : Int) (q : Bool) (a1 a2 a3 : Option Addr) (n1 n2 n3 c1 c2 c3 : Nat) (w : World) (h1 : n1 ≤ maxLen) (h2 : n2 ≤ maxLen) (h3 : n3 ≤ maxLen) :
    Calls Tryz.prog 5 #[.int .i64 g, .slice a1 n1 c1, .bool q, .slice a2 n2 c2, .slice a3 n3 c3, .int .i64 d] w fun e w' => e = .returned (.bool (fits n1 n2 n3)) ∧ w' = w := by
  unfold maxLen at h1 h2 h3
  go_enter Tryz.func5, Tryz.ntmps5
  go_wp2
  all_goals go_ret
  all_goals exact ⟨ret_bool (by unfold fits; simp; omega), rfl⟩

set_option maxHeartbeats 400000 in
theorem bytes12 (g d : Int) (q : Bool) (a1 a2 a3 : Option Addr) (n1 n2 n3 c1 c2 c3 : Nat) (w : World) (h1 : n1 ≤ maxLen) (h2 : n2 ≤ maxLen) (h3 : n3 ≤ maxLen) :
    Calls Tryz.prog 12 #[.int .i64 g, .slice a1 n1 c1, .bool q, .slice a2 n2 c2, .slice a3 n3 c3, .int .i64 d] w fun e w' => e = .returned (.bool (fits n1 n2 n3)) ∧ w' = w := by
  unfold maxLen at h1 h2 h3
  go_enter Tryz.func12, Tryz.ntmps12
  go_wp2
  all_goals go_ret
  all_goals exact ⟨ret_bool (by unfold fits; simp; omega), rfl⟩
end Go.Proofs.Qxb6614728aGreatDoor
