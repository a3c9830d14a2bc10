import Derived.Test.Qxb6615843aGr
import Derived.Laws.Rows
namespace Go.Proofs.Qxb6615843a
open Go.RowKit

/-- A time of no monotonic reading: nanoseconds, seconds. -/
def raw (n s : Int) : Value := .agg #[.int .u64 n, .int .i64 s, .pointer none]

theorem zero29 : (Try.prog.info? 29).map (·.zero) = some (some (raw 0 0)) := by kernel_rfl

theorem zeroT (w : World) : (zeroValue 29).run Try.prog w = .ok (raw 0 0) w := by
  obtain ⟨i, hi, h⟩ := Option.map_eq_some_iff.1 zero29
  simp [zeroValue, typeInfo, hi, h]

set_option maxRecDepth 100000 in
set_option maxHeartbeats 400000 in
theorem add1 (n s d q r : Int) (w : World) (h0 : 0 ≤ n) (h1 : n < 1000000000) (hq : d.tdiv 1000000000 = q) (hr : d.tmod 1000000000 = r)
    (q1 : -10000000000 ≤ q) (q2 : q ≤ 10000000000) (s1 : -10000000000 ≤ s) (s2 : s ≤ 10000000000) (c1 : 0 ≤ n + r) (c2 : n + r < 1000000000) (r1 : -1000000000 < r) (r2 : r < 1000000000) :
    Calls Try.prog 8 #[raw n s, .int .i64 d] w fun e w' => e = .returned (raw (n + r) (s + q)) ∧ Gr w w' := by
  have e1 : decide (1000000000 ≤ n + r) = false := by simp; omega
  have e2 : decide (n + r < 0) = false := by simp; omega
  have w1 : IntKind.i64.wrap q = q := by rw [IntKind.wrap_i64]; omega
  have w2 : IntKind.i64.wrap r = r := by rw [IntKind.wrap_i64]; omega
  have w3 : IntKind.i32.wrap r = r := by rw [IntKind.wrap_i32]; omega
  have w4 : IntKind.i32.wrap (n + r) = n + r := by rw [IntKind.wrap_i32]; omega
  have w5 : IntKind.u64.wrap (n + r) = n + r := by rw [IntKind.wrap_u64]; omega
  have b1 := andNot_low n h0 h1
  have b2 := or_zero (n + r) c1 c2
  have b3 := and_high (n + r) c1 (by omega)
  unfold raw
  go_enter Try.func8, Try.ntmps8
  go_wp2_with fail
  refine (nsec (n := n) (by simp) h0 h1).mono ?_
  rintro e w' ⟨rfl, rfl⟩
  go_wp2_with fail
  refine (addSec (n := n + r) (s := s) (d := q) (by simp) (by simp) (by simp) c1 c2 (by omega) (by omega)).mono ?_
  rintro e w' ⟨rfl, rfl⟩
  go_wp2_with fail
  (try simp only [Exit.inBlock, Exit.then])
  refine bodyPost_ret (results_cell_row rfl _ _ _ _ _ _ _ rfl (heap_alloc2_new _ _ _) Try.underlying29 rfl (by kernel_rfl)) rfl ?_
  exact ⟨rfl, ((Gr.refl _).alloc _).alloc _⟩
set_option maxRecDepth 100000 in
set_option maxHeartbeats 400000 in
theorem add2 (n s d q r : Int) (w : World) (h0 : 0 ≤ n) (h1 : n < 1000000000) (hq : d.tdiv 1000000000 = q) (hr : d.tmod 1000000000 = r)
    (q1 : -10000000000 ≤ q) (q2 : q ≤ 10000000000) (s1 : -10000000000 ≤ s) (s2 : s ≤ 10000000000) (c1 : 1000000000 ≤ n + r) (r1 : -1000000000 < r) (r2 : r < 1000000000) :
    Calls Try.prog 8 #[raw n s, .int .i64 d] w fun e w' => e = .returned (raw (n + r - 1000000000) (s + (q + 1))) ∧ Gr w w' := by
  have e1 : decide (1000000000 ≤ n + r) = true := by simp; omega
  have w6 : IntKind.i64.wrap (q + 1) = q + 1 := by rw [IntKind.wrap_i64]; omega
  have w7 : IntKind.i32.wrap (n + r - 1000000000) = n + r - 1000000000 := by rw [IntKind.wrap_i32]; omega
  have w1 : IntKind.i64.wrap q = q := by rw [IntKind.wrap_i64]; omega
  have w2 : IntKind.i64.wrap r = r := by rw [IntKind.wrap_i64]; omega
  have w3 : IntKind.i32.wrap r = r := by rw [IntKind.wrap_i32]; omega
  have w4 : IntKind.i32.wrap (n + r) = n + r := by rw [IntKind.wrap_i32]; omega
  have w5 : IntKind.u64.wrap (n + r - 1000000000) = n + r - 1000000000 := by rw [IntKind.wrap_u64]; omega
  have b1 := andNot_low n h0 h1
  have b2 := or_zero (n + r - 1000000000) (by omega) (by omega)
  have b3 := and_high (n + r - 1000000000) (by omega) (by omega)
  unfold raw
  go_enter Try.func8, Try.ntmps8
  go_wp2_with fail
  refine (nsec (n := n) (by simp) h0 h1).mono ?_
  rintro e w' ⟨rfl, rfl⟩
  go_wp2_with fail
  refine (addSec (n := n + r - 1000000000) (s := s) (d := q + 1) (by simp) (by simp) (by simp) (by omega) (by omega) (by omega) (by omega)).mono ?_
  rintro e w' ⟨rfl, rfl⟩
  go_wp2_with fail
  (try simp only [Exit.inBlock, Exit.then])
  refine bodyPost_ret (results_cell_row rfl _ _ _ _ _ _ _ rfl (heap_alloc2_new _ _ _) Try.underlying29 rfl (by kernel_rfl)) rfl ?_
  exact ⟨rfl, ((Gr.refl _).alloc _).alloc _⟩
set_option maxRecDepth 100000 in
set_option maxHeartbeats 400000 in
theorem add3 (n s d q r : Int) (w : World) (h0 : 0 ≤ n) (h1 : n < 1000000000) (hq : d.tdiv 1000000000 = q) (hr : d.tmod 1000000000 = r)
    (q1 : -10000000000 ≤ q) (q2 : q ≤ 10000000000) (s1 : -10000000000 ≤ s) (s2 : s ≤ 10000000000) (c1 : n + r < 0) (r1 : -1000000000 < r) (r2 : r < 1000000000) :
    Calls Try.prog 8 #[raw n s, .int .i64 d] w fun e w' => e = .returned (raw (n + r + 1000000000) (s + (q - 1))) ∧ Gr w w' := by
  have e1 : decide (1000000000 ≤ n + r) = false := by simp; omega
  have e2 : decide (n + r < 0) = true := by simp; omega
  have w6 : IntKind.i64.wrap (q - 1) = q - 1 := by rw [IntKind.wrap_i64]; omega
  have w7 : IntKind.i32.wrap (n + r + 1000000000) = n + r + 1000000000 := by rw [IntKind.wrap_i32]; omega
  have w1 : IntKind.i64.wrap q = q := by rw [IntKind.wrap_i64]; omega
  have w2 : IntKind.i64.wrap r = r := by rw [IntKind.wrap_i64]; omega
  have w3 : IntKind.i32.wrap r = r := by rw [IntKind.wrap_i32]; omega
  have w4 : IntKind.i32.wrap (n + r) = n + r := by rw [IntKind.wrap_i32]; omega
  have w5 : IntKind.u64.wrap (n + r + 1000000000) = n + r + 1000000000 := by rw [IntKind.wrap_u64]; omega
  have b1 := andNot_low n h0 h1
  have b2 := or_zero (n + r + 1000000000) (by omega) (by omega)
  have b3 := and_high (n + r + 1000000000) (by omega) (by omega)
  unfold raw
  go_enter Try.func8, Try.ntmps8
  go_wp2_with fail
  refine (nsec (n := n) (by simp) h0 h1).mono ?_
  rintro e w' ⟨rfl, rfl⟩
  go_wp2_with fail
  refine (addSec (n := n + r + 1000000000) (s := s) (d := q - 1) (by simp) (by simp) (by simp) (by omega) (by omega) (by omega) (by omega)).mono ?_
  rintro e w' ⟨rfl, rfl⟩
  go_wp2_with fail
  (try simp only [Exit.inBlock, Exit.then])
  refine bodyPost_ret (results_cell_row rfl _ _ _ _ _ _ _ rfl (heap_alloc2_new _ _ _) Try.underlying29 rfl (by kernel_rfl)) rfl ?_
  exact ⟨rfl, ((Gr.refl _).alloc _).alloc _⟩
/-- The time x nanoseconds behind the zero time. -/
def tm (x : Int) : Value := raw (x % 1000000000) (x / 1000000000)

theorem addT (x d : Int) (w : World) (x1 : -9223372036854775808 ≤ x) (x2 : x < 9223372036854775808) (d1 : -9223372036854775808 ≤ d) (d2 : d < 9223372036854775808) :
    Calls Try.prog 8 #[tm x, .int .i64 d] w fun e w' => e = .returned (tm (x + d)) ∧ Gr w w' := by
  have hd : d.tdiv 1000000000 * 1000000000 + d.tmod 1000000000 = d := Int.tdiv_mul_add_tmod d 1000000000
  have hr1 : -1000000000 < d.tmod 1000000000 := by have := Int.lt_tmod_of_pos d (b := 1000000000) (by decide); omega
  have hr2 : d.tmod 1000000000 < 1000000000 := Int.tmod_lt_of_pos d (by decide)
  unfold tm
  generalize hq : d.tdiv 1000000000 = q at hd
  generalize hr : d.tmod 1000000000 = r at hd hr1 hr2
  by_cases c1 : x % 1000000000 + r < 0
  · have e1 : (x + d) % 1000000000 = x % 1000000000 + r + 1000000000 := by omega
    have e2 : (x + d) / 1000000000 = x / 1000000000 + (q - 1) := by omega
    rw [e1, e2]
    exact add3 _ _ d q r w (by omega) (by omega) hq hr (by omega) (by omega) (by omega) (by omega) c1 hr1 hr2
  · by_cases c2 : x % 1000000000 + r < 1000000000
    · have e1 : (x + d) % 1000000000 = x % 1000000000 + r := by omega
      have e2 : (x + d) / 1000000000 = x / 1000000000 + q := by omega
      rw [e1, e2]
      exact add1 _ _ d q r w (by omega) (by omega) hq hr (by omega) (by omega) (by omega) (by omega) (by omega) c2 hr1 hr2
    · have e1 : (x + d) % 1000000000 = x % 1000000000 + r - 1000000000 := by omega
      have e2 : (x + d) / 1000000000 = x / 1000000000 + (q + 1) := by omega
      rw [e1, e2]
      exact add2 _ _ d q r w (by omega) (by omega) hq hr (by omega) (by omega) (by omega) (by omega) (by omega) hr1 hr2

set_option maxRecDepth 100000 in
set_option maxHeartbeats 400000 in
theorem results_time {fn : Func} {p : Tmp} (h : fn.results = #[.cell p 29]) (tmps : Array Value) (w : World) (g : Nat) (n s : Int) (hp : tmps.getD p undef = .pointer (some ⟨g, 0, none⟩))
    (c0 : w.cell? ⟨g, 0, none⟩ = some (.int .u64 n)) (c1 : w.cell? ⟨g, 1, none⟩ = some (.int .i64 s)) (c2 : w.cell? ⟨g, 2, none⟩ = some (.pointer none)) :
    (results fn tmps).run Try.prog w = .ok (.agg #[.int .u64 n, .int .i64 s, .pointer none]) w := by
  have hp' : tmps[p]?.getD undef = .pointer (some ⟨g, 0, none⟩) := by simpa using hp
  have hl : (loadCells ⟨g, 0, none⟩ 3).run Try.prog w = .ok #[.int .u64 n, .int .i64 s, .pointer none] w :=
    run_loadCells_list (P := Try.prog) w ⟨g, 0, none⟩ [.int .u64 n, .int .i64 s, .pointer none] (fun j v hv => by
      match j, hv with
      | 0, hv => exact c0.trans hv
      | 1, hv => exact c1.trans hv
      | 2, hv => exact c2.trans hv
      | j + 3, hv => simp at hv)
  have hi : (Try.prog.info? 29).map (·.size) = some 3 := by kernel_rfl
  obtain ⟨i, hq, hs⟩ := Option.map_eq_some_iff.1 hi
  have hagg : (isAgg 29).run Try.prog w = .ok true w := by
    unfold isAgg
    rw [Sem.run_bind, run_underlying Try.underlying29 w]
    simp
  simp only [results, h]
  simp [hp', asAddr, loadVar, Sem.run_bind, hagg, sizeOf, typeInfo, hq, hs, hl]

set_option maxRecDepth 100000 in
set_option maxHeartbeats 400000 in
theorem instantT (x : Int) (w : World) (x1 : -9223372036854775808 ≤ x) (x2 : x < 9223372036854775808) :
    Calls Try.prog 6 #[.int .i64 x] w fun e w' => e = .returned (tm x) ∧ Gr w w' := by
  have C := fun w => addT 0 x w (by decide) (by decide) x1 x2
  have ez : tm 0 = raw 0 0 := rfl
  rw [Int.zero_add, ez] at C
  unfold raw at C
  clear ez
  go_enter Try.func6, Try.ntmps6
  go_wp2_with fail
  refine (C _).mono ?_
  rintro e w1 ⟨rfl, hB⟩
  unfold tm raw
  obtain ⟨n, hn⟩ : ∃ n, Hid (x % 1000000000 = n) := ⟨_, rfl⟩
  obtain ⟨s, hs⟩ : ∃ n, Hid (x / 1000000000 = n) := ⟨_, rfl⟩
  rw [hn.out, hs.out]
  have c0 : w1.cell? ⟨w.heap.size, 0, none⟩ = some (.int .u64 0) := by rw [hB.below.cell (by simp)]; simp
  have c1 : w1.cell? ⟨w.heap.size, 1, none⟩ = some (.int .i64 0) := by rw [hB.below.cell (by simp)]; simp
  have c2 : w1.cell? ⟨w.heap.size, 2, none⟩ = some (.pointer none) := by rw [hB.below.cell (by simp)]; simp
  have f0 : ∀ i, w1.frozen? ⟨w.heap.size, i, none⟩ = false := by intro i; rw [hB.below.frozen (by simp)]; simp
  have HB : Hid (Gr w w1) := ((Gr.refl _).alloc _).trans hB
  clear hB C
  go_wp2_with fail
  (try simp only [Exit.inBlock, Exit.then])
  refine bodyPost_ret (v := .agg #[.int .u64 n, .int .i64 s, .pointer none]) ?_ rfl ⟨by unfold tm raw; rw [hn.out, hs.out], ((HB.out.setCell (Nat.le_refl _) _).setCell (Nat.le_refl _) _).setCell (Nat.le_refl _) _⟩
  refine results_time rfl _ _ w.heap.size n s rfl ?_ ?_ ?_
  · rw [World.cell?_setCell_other _ _ _ _ (by simp), World.cell?_setCell_other _ _ _ _ (by simp)]
    exact World.cell?_setCell_same _ _ _ c0
  · rw [World.cell?_setCell_other _ _ _ _ (by simp)]
    exact World.cell?_setCell_same _ _ _ ((World.cell?_setCell_other _ _ _ _ (by simp)).trans c1)
  · exact World.cell?_setCell_same _ _ _ ((World.cell?_setCell_other _ _ _ _ (by simp)).trans ((World.cell?_setCell_other _ _ _ _ (by simp)).trans c2))
end Go.Proofs.Qxb6615843a
