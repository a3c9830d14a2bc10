import Derived.Test.Qxb6615843aDueB
namespace Go.Proofs.Qxb6615843a
open Go.RowKit Go.Sort

theorem zero72 : (Try.prog.info? 72).map (fun i => (i.zero.map fun z => (decide (9 ≤ z.cells.size), (match z with | .agg _ => true | _ => false)))) = some (some (true, true)) := by kernel_rfl

theorem zeroW : ∃ Z : Array Value, (∀ w, (zeroValue 72).run Try.prog w = .ok (.agg Z) w) ∧ 9 ≤ Z.size := by
  obtain ⟨i, hi, h⟩ := Option.map_eq_some_iff.1 zero72
  obtain ⟨z, hz, h⟩ := Option.map_eq_some_iff.1 h
  simp only [Prod.mk.injEq] at h
  obtain ⟨h1, h7⟩ := h
  refine ⟨z.cells, fun w => ?_, of_decide_eq_true h1⟩
  cases z <;> first | (cases h7; done) | simp [zeroValue, typeInfo, hi, hz, Value.cells]

set_option maxRecDepth 100000 in
set_option maxHeartbeats 400000 in
theorem watcherAt (o : Int) (w : World) :
    Calls Try.prog 5 #[tm o] w fun e w' => Gr w w' ∧ ∃ b, e = .returned (.pointer (some ⟨b, 0, none⟩)) ∧ w'.cell? ⟨b, 6, none⟩ = some (.int .u64 (o % 1000000000)) ∧ w'.cell? ⟨b, 7, none⟩ = some (.int .i64 (o / 1000000000)) ∧ w'.cell? ⟨b, 8, none⟩ = some (.pointer none) := by
  obtain ⟨Z, hz, hs⟩ := zeroW
  have hlt : ¬ Z.size < 9 := by omega
  unfold tm raw
  generalize o % 1000000000 = n
  generalize o / 1000000000 = s
  go_enter Try.func5, Try.ntmps5
  go_wp2_with fail
  go_ret
  refine ⟨((Gr.refl _).alloc _).alloc _, w.heap.size + 1, rfl, ?_, ?_, ?_⟩
  · rw [cell_of_row _ _ _ _ _ _ (heap_alloc2_new _ _ _), Array.getElem?_setIfInBounds, if_neg (by decide), Array.getElem?_setIfInBounds, if_neg (by decide), Array.getElem?_setIfInBounds, if_pos rfl, if_pos (by omega)]
  · rw [cell_of_row _ _ _ _ _ _ (heap_alloc2_new _ _ _), Array.getElem?_setIfInBounds, if_neg (by decide), Array.getElem?_setIfInBounds, if_pos rfl, if_pos (by simp; omega)]
  · rw [cell_of_row _ _ _ _ _ _ (heap_alloc2_new _ _ _), Array.getElem?_setIfInBounds, if_pos rfl, if_pos (by simp; omega)]

set_option maxRecDepth 100000 in
set_option maxHeartbeats 400000 in
theorem zzdue (bo x : Nat) (p l t : Int) (v : Bool) (w : World)
    (C : ∀ W, Gr w W → Calls Try.prog 9 #[.pointer (some ⟨bo, 0, none⟩), .float .f64 x, .int .i64 p, tm l, tm t] W fun e w' => e = .returned (.bool v) ∧ Gr W w') :
    Calls Try.prog 7 #[.pointer (some ⟨bo, 0, none⟩), .float .f64 x, .int .i64 p, tm l, tm t] w fun e w' => e = .returned (.bool v) ∧ Gr w w' := by
  unfold tm raw at *
  generalize l % 1000000000 = n at *
  generalize l / 1000000000 = s at *
  generalize t % 1000000000 = m at *
  generalize t / 1000000000 = r at *
  go_enter Try.func7, Try.ntmps7
  go_wp2_with fail
  have G : Hid (Gr w ((w.alloc (Obj.cells #[Value.int IntKind.u64 n, Value.int IntKind.i64 s, Value.pointer none] 29)).alloc (Obj.cells #[Value.int IntKind.u64 m, Value.int IntKind.i64 r, Value.pointer none] 29))) := ((Gr.refl _).alloc _).alloc _
  refine (C _ G.out).mono ?_
  rintro e W1 ⟨rfl, g⟩
  have G1 : Hid (Gr w W1) := G.out.trans g
  clear g G C
  go_wp2
  go_ret
  exact ⟨rfl, G1.out⟩

/-- inInstants. -/
def inI (x : Int) : Bool := decide (-2305843009213693952 ≤ x) && decide (x ≤ 2305843009213693952)

theorem inInstants4 (z : Int) (w : World) : Calls Try.prog 4 #[.int .i64 z] w fun e w' => e = .returned (.bool (inI z)) ∧ w' = w := by
  by_cases h1 : -2305843009213693952 ≤ z
  · have b1 : decide (-2305843009213693952 ≤ z) = true := by simp; omega
    by_cases h2 : z ≤ 2305843009213693952
    · have b2 : decide (z ≤ 2305843009213693952) = true := by simp; omega
      go_enter Try.func4, Try.ntmps4
      go_wp2
      go_ret
      exact ⟨by simp [inI, h1, h2], rfl⟩
    · have b2 : decide (z ≤ 2305843009213693952) = false := by simp; omega
      go_enter Try.func4, Try.ntmps4
      go_wp2
      go_ret
      exact ⟨by simp [inI, h1, h2], rfl⟩
  · have b1 : decide (-2305843009213693952 ≤ z) = false := by simp; omega
    go_enter Try.func4, Try.ntmps4
    go_wp2
    go_ret
    exact ⟨by simp [inI]; omega, rfl⟩
end Go.Proofs.Qxb6615843a
