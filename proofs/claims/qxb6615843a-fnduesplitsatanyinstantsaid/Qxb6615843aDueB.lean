import Derived.Test.Qxb6615843aDueA
import Derived.Test.Qxb6615843aFloat
import Derived.WalkLawsBesides
namespace Go.Proofs.Qxb6615843a
open Go.RowKit Go.Sort

theorem four (w : World) (o1 o2 o3 o4 : Obj) : Gr w ((((w.alloc o1).alloc o2).alloc o3).alloc o4) ∧ ((((w.alloc o1).alloc o2).alloc o3).alloc o4).heap[w.heap.size]? = some o1 ∧ ((((w.alloc o1).alloc o2).alloc o3).alloc o4).heap[w.heap.size + 1]? = some o2 ∧
    ((((w.alloc o1).alloc o2).alloc o3).alloc o4).heap[w.heap.size + 2]? = some o3 ∧ ((((w.alloc o1).alloc o2).alloc o3).alloc o4).heap[w.heap.size + 3]? = some o4 := by
  have e1 : (w.alloc o1).heap.size = w.heap.size + 1 := by simp
  have e2 : ((w.alloc o1).alloc o2).heap.size = w.heap.size + 2 := by simp
  have e3 : (((w.alloc o1).alloc o2).alloc o3).heap.size = w.heap.size + 3 := by simp
  refine ⟨((((Gr.refl _).alloc _).alloc _).alloc _).alloc _, ?_, ?_, ?_, ?_⟩
  · rw [Below.heap_alloc _ _ _ (by omega), Below.heap_alloc _ _ _ (by omega), Below.heap_alloc _ _ _ (by omega), heap_alloc_new]
  · rw [Below.heap_alloc _ _ _ (by omega), Below.heap_alloc _ _ _ (by omega), ← e1, heap_alloc_new]
  · rw [Below.heap_alloc _ _ _ (by omega), ← e2, heap_alloc_new]
  · rw [← e3, heap_alloc_new]

set_option maxRecDepth 100000 in
set_option maxHeartbeats 400000 in
theorem due_always (bo : Nat) (x : Nat) (p l t : Int) (w : World) (h : l = 0 ∨ p ≤ 0) :
    Calls Try.prog 9 #[.pointer (some ⟨bo, 0, none⟩), .float .f64 x, .int .i64 p, tm l, tm t] w fun e w' => e = .returned (.bool true) ∧ Gr w w' := by
  have C := fun W => isZeroT l W
  unfold tm raw at C ⊢
  generalize l % 1000000000 = n at C ⊢
  generalize l / 1000000000 = s at C ⊢
  generalize t % 1000000000 = m
  generalize t / 1000000000 = r
  go_enter Try.func9, Try.ntmps9
  go_wp2_with fail
  obtain ⟨G0, _, c1, _, _⟩ := four w (Obj.cells #[.pointer (some ⟨bo, 0, none⟩)] 24) (Obj.cells #[.int .i64 p] 74) (Obj.cells #[Value.int IntKind.u64 n, Value.int IntKind.i64 s, Value.pointer none] 29) (Obj.cells #[Value.int IntKind.u64 m, Value.int IntKind.i64 r, Value.pointer none] 29)
  have G : Hid (Gr w ((((w.alloc (Obj.cells #[.pointer (some ⟨bo, 0, none⟩)] 24)).alloc (Obj.cells #[.int .i64 p] 74)).alloc (Obj.cells #[Value.int IntKind.u64 n, Value.int IntKind.i64 s, Value.pointer none] 29)).alloc (Obj.cells #[Value.int IntKind.u64 m, Value.int IntKind.i64 r, Value.pointer none] 29))) := G0
  clear G0
  generalize (((w.alloc (Obj.cells #[.pointer (some ⟨bo, 0, none⟩)] 24)).alloc (Obj.cells #[.int .i64 p] 74)).alloc (Obj.cells #[Value.int IntKind.u64 n, Value.int IntKind.i64 s, Value.pointer none] 29)).alloc (Obj.cells #[Value.int IntKind.u64 m, Value.int IntKind.i64 r, Value.pointer none] 29) = W at *
  have c1 := cell_of_row W _ 0 _ _ _ c1
  refine (C W).mono ?_
  rintro e W1 ⟨rfl, g⟩
  have hc1 := g.cell c1
  have G1 : Hid (Gr w W1) := G.out.trans g
  clear c1 g G C
  by_cases h0 : l = 0
  · have b0 : decide (l = 0) = true := by simp [h0]
    rw [b0]
    clear h h0 b0
    go_wp2
    go_ret
    exact ⟨rfl, G1.out⟩
  · have b0 : decide (l = 0) = false := by simp [h0]
    have b1 : decide (p ≤ 0) = true := by simp; omega
    rw [b0]
    clear h h0 b0
    go_wp2
    go_ret
    exact ⟨rfl, G1.out⟩

set_option maxRecDepth 100000 in
set_option maxHeartbeats 400000 in
theorem due_main (bo : Nat) (x r : Nat) (p l t o n : Int) (w : World) (hp : 0 < p) (hl : l ≠ 0)
    (hm : floatBits .mul .f64 (floatOfInt .f64 p) x = some r) (hn : floatToIntVal .f64 r .i64 = some n)
    (o0 : w.cell? ⟨bo, 6, none⟩ = some (.int .u64 (o % 1000000000))) (o1 : w.cell? ⟨bo, 7, none⟩ = some (.int .i64 (o / 1000000000))) (o2 : w.cell? ⟨bo, 8, none⟩ = some (.pointer none))
    (n0 : 0 ≤ n) (n1 : n ≤ 4611686018427387904) (p1 : p ≤ 1152921504606846976) (oa : -2305843009213693952 ≤ o) (ob : o ≤ 2305843009213693952) (la : -2305843009213693952 ≤ l) (lb : l ≤ 2305843009213693952) (ta : -2305843009213693952 ≤ t) (tb : t ≤ 3458764513820540928) :
    Calls Try.prog 9 #[.pointer (some ⟨bo, 0, none⟩), .float .f64 x, .int .i64 p, tm l, tm t] w fun e w' => e = .returned (.bool (decide ((l - o + (p - n)) / p < (t - o + (p - n)) / p))) ∧ Gr w w' := by
  have C := fun W => isZeroT l W
  have hmul : ∀ W, (binOp .mul 22 (.float .f64 (floatOfInt .f64 p)) (.float .f64 x)).run Try.prog W = .ok (.float .f64 r) W := fun W => run_float_arith W _ _ _ _ _ _ hm
  have hcv : ∀ W, (convert 22 74 (.float .f64 r)).run Try.prog W = .ok (.int .i64 n) W := fun W => run_convert_float_int W 22 74 .f64 .i64 r n (by rw [Try.underlying22]; rfl) Try.underlying74 hn
  clear hm hn
  obtain ⟨sh, hsh⟩ : ∃ sh, p - n = sh := ⟨_, rfl⟩
  rw [hsh]
  have hw : IntKind.i64.wrap (p - n) = sh := by rw [IntKind.wrap_i64]; omega
  have C15a := fun W bw bs bp c0 c1 c2 o0 o1 o2 => closure15 t o sh p W bw bo bs bp c0 c1 c2 o0 o1 o2 (by omega) (by omega) (by omega) (by omega) (by omega) (by omega) hp
  have C15b := fun W bw bs bp c0 c1 c2 o0 o1 o2 => closure15 l o sh p W bw bo bs bp c0 c1 c2 o0 o1 o2 (by omega) (by omega) (by omega) (by omega) (by omega) (by omega) hp
  have b0 : decide (l = 0) = false := by simp [hl]
  have b1 : decide (p ≤ 0) = false := by simp; omega
  generalize (l - o + sh) / p = fl at *
  generalize (t - o + sh) / p = ft at *
  clear oa ob la lb ta tb hl p1 hp hsh
  unfold tm raw at *
  generalize l % 1000000000 = n at C C15b ⊢
  generalize l / 1000000000 = s at C C15b ⊢
  generalize t % 1000000000 = m at C15a ⊢
  generalize t / 1000000000 = q at C15a ⊢
  go_enter Try.func9, Try.ntmps9
  go_wp2_with fail
  obtain ⟨G0, c0, c1, c2, c3⟩ := four w (Obj.cells #[.pointer (some ⟨bo, 0, none⟩)] 24) (Obj.cells #[.int .i64 p] 74) (Obj.cells #[Value.int IntKind.u64 n, Value.int IntKind.i64 s, Value.pointer none] 29) (Obj.cells #[Value.int IntKind.u64 m, Value.int IntKind.i64 q, Value.pointer none] 29)
  have G : Hid (Gr w ((((w.alloc (Obj.cells #[.pointer (some ⟨bo, 0, none⟩)] 24)).alloc (Obj.cells #[.int .i64 p] 74)).alloc (Obj.cells #[Value.int IntKind.u64 n, Value.int IntKind.i64 s, Value.pointer none] 29)).alloc (Obj.cells #[Value.int IntKind.u64 m, Value.int IntKind.i64 q, Value.pointer none] 29))) := G0
  clear G0
  generalize (((w.alloc (Obj.cells #[.pointer (some ⟨bo, 0, none⟩)] 24)).alloc (Obj.cells #[.int .i64 p] 74)).alloc (Obj.cells #[Value.int IntKind.u64 n, Value.int IntKind.i64 s, Value.pointer none] 29)).alloc (Obj.cells #[Value.int IntKind.u64 m, Value.int IntKind.i64 q, Value.pointer none] 29) = W at *
  refine (C W).mono ?_
  rintro e W1 ⟨rfl, g⟩
  have a0 : W1.cell? ⟨w.heap.size, 0, none⟩ = some (.pointer (some ⟨bo, 0, none⟩)) := g.cell (cell_of_row W _ 0 _ _ _ c0)
  have a1 : W1.cell? ⟨w.heap.size + 1, 0, none⟩ = some (.int .i64 p) := g.cell (cell_of_row W _ 0 _ _ _ c1)
  have l0 : W1.cell? ⟨w.heap.size + 1 + 1, 0, none⟩ = some (.int .u64 n) := g.cell (cell_of_row W _ 0 _ _ _ c2)
  have l1 : W1.cell? ⟨w.heap.size + 1 + 1, 1, none⟩ = some (.int .i64 s) := g.cell (cell_of_row W _ 1 _ _ _ c2)
  have l2 : W1.cell? ⟨w.heap.size + 1 + 1, 2, none⟩ = some (.pointer none) := g.cell (cell_of_row W _ 2 _ _ _ c2)
  have t0 : W1.cell? ⟨w.heap.size + 1 + 1 + 1, 0, none⟩ = some (.int .u64 m) := g.cell (cell_of_row W _ 0 _ _ _ c3)
  have t1 : W1.cell? ⟨w.heap.size + 1 + 1 + 1, 1, none⟩ = some (.int .i64 q) := g.cell (cell_of_row W _ 1 _ _ _ c3)
  have t2 : W1.cell? ⟨w.heap.size + 1 + 1 + 1, 2, none⟩ = some (.pointer none) := g.cell (cell_of_row W _ 2 _ _ _ c3)
  have G1 : Hid (Gr w W1) := G.out.trans g
  replace o0 := G1.out.cell o0
  replace o1 := G1.out.cell o1
  replace o2 := G1.out.cell o2
  clear c0 c1 c2 c3 g G C
  rw [b0]
  clear b0
  go_wp2_with fail
  have g2 : Gr W1 (W1.alloc (Obj.cells #[Value.int IntKind.i64 sh] 74)) := (Gr.refl _).alloc _
  have G2 : Hid (Gr w (W1.alloc (Obj.cells #[Value.int IntKind.i64 sh] 74))) := G1.out.trans g2
  replace a0 := g2.cell a0
  replace a1 := g2.cell a1
  replace l0 := g2.cell l0
  replace l1 := g2.cell l1
  replace l2 := g2.cell l2
  replace t0 := g2.cell t0
  replace t1 := g2.cell t1
  replace t2 := g2.cell t2
  replace o0 := g2.cell o0
  replace o1 := g2.cell o1
  replace o2 := g2.cell o2
  have s0 : (W1.alloc (Obj.cells #[Value.int IntKind.i64 sh] 74)).cell? ⟨W1.heap.size, 0, none⟩ = some (.int .i64 sh) := by simp
  clear g2
  generalize W1.alloc (Obj.cells #[Value.int IntKind.i64 sh] 74) = W2 at *
  replace a0 := cell_grown (World.block_lt_of_cell? W2 _ a0) a0
  replace a1 := cell_grown (World.block_lt_of_cell? W2 _ a1) a1
  replace l0 := cell_grown (World.block_lt_of_cell? W2 _ l0) l0
  replace l1 := cell_grown (World.block_lt_of_cell? W2 _ l1) l1
  replace l2 := cell_grown (World.block_lt_of_cell? W2 _ l2) l2
  replace t0 := cell_grown (World.block_lt_of_cell? W2 _ t0) t0
  replace t1 := cell_grown (World.block_lt_of_cell? W2 _ t1) t1
  replace t2 := cell_grown (World.block_lt_of_cell? W2 _ t2) t2
  replace o0 := cell_grown (World.block_lt_of_cell? W2 _ o0) o0
  replace o1 := cell_grown (World.block_lt_of_cell? W2 _ o1) o1
  replace o2 := cell_grown (World.block_lt_of_cell? W2 _ o2) o2
  replace s0 := cell_grown (World.block_lt_of_cell? W2 _ s0) s0
  have hmix := mixed
  have Ka : ∀ n' os', Calls Try.prog 15 #[Value.agg #[Value.int IntKind.u64 m, Value.int IntKind.i64 q, Value.pointer none], Value.pointer (some ⟨w.heap.size, 0, none⟩), Value.pointer (some ⟨W1.heap.size, 0, none⟩), Value.pointer (some ⟨w.heap.size + 1, 0, none⟩)] (grow (W2.drewN n') os') fun e w'' => e = .returned (.int .i64 ft) ∧ ∃ p : GrownBy, w'' = grow (W2.drewN p.n) p.os :=
    fun n' os' => Calls.grown_of ((C15a _ _ _ _ (a0 _ _) (s0 _ _) (a1 _ _) (o0 _ _) (o1 _ _) (o2 _ _)).mono (fun e w' h => ⟨h.1, h.2.form⟩))
  have Kb : ∀ n' os', Calls Try.prog 15 #[Value.agg #[Value.int IntKind.u64 n, Value.int IntKind.i64 s, Value.pointer none], Value.pointer (some ⟨w.heap.size, 0, none⟩), Value.pointer (some ⟨W1.heap.size, 0, none⟩), Value.pointer (some ⟨w.heap.size + 1, 0, none⟩)] (grow (W2.drewN n') os') fun e w'' => e = .returned (.int .i64 fl) ∧ ∃ p : GrownBy, w'' = grow (W2.drewN p.n) p.os :=
    fun n' os' => Calls.grown_of ((C15b _ _ _ _ (a0 _ _) (s0 _ _) (a1 _ _) (o0 _ _) (o1 _ _) (o2 _ _)).mono (fun e w' h => ⟨h.1, h.2.form⟩))
  clear C15a C15b
  go_quiet_grown (first | (go_at_call 15; with_reducible exact Ka _ _) | (go_at_call 15; with_reducible exact Kb _ _))
  have G3 : Hid (Gr w (grow (W2.drewN nq) osq)) := G2.out.trans (Gr.grown _ _ _)
  generalize grow (W2.drewN nq) osq = W3 at *
  go_wp2
  go_ret
  exact ⟨rfl, G3.out⟩
end Go.Proofs.Qxb6615843a
