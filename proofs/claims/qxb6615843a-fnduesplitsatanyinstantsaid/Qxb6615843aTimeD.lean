import Derived.Test.Qxb6615843aTimeC
namespace Go.Proofs.Qxb6615843a
open Go.RowKit Go.Sort

theorem mixed : Try.prog.follows .mixedOrders = true := by kernel_rfl

set_option maxRecDepth 100000 in
set_option maxHeartbeats 400000 in
theorem subT (x y : Int) (w : World) (y1 : -9000000000000000000 ≤ y) (y2 : y ≤ 9000000000000000000) (d1 : -9000000000000000000 ≤ x - y) (d2 : x - y ≤ 9000000000000000000) :
    Calls Try.prog 16 #[tm x, tm y] w fun e w' => e = .returned (.int .i64 (x - y)) ∧ Gr w w' := by
  have C8 := fun W => addT y (x - y) W (by omega) (by omega) (by omega) (by omega)
  have C19 := fun W => equalT x W
  rw [show y + (x - y) = x by omega] at C8
  unfold tm raw at C8 C19 ⊢
  obtain ⟨n, hn⟩ : ∃ n, Hid (x % 1000000000 = n) := ⟨_, rfl⟩
  obtain ⟨s, hs⟩ : ∃ n, Hid (x / 1000000000 = n) := ⟨_, rfl⟩
  obtain ⟨m, hm⟩ : ∃ n, Hid (y % 1000000000 = n) := ⟨_, rfl⟩
  obtain ⟨r, hr⟩ : ∃ n, Hid (y / 1000000000 = n) := ⟨_, rfl⟩
  obtain ⟨E, hE⟩ : ∃ n, Hid (x - y = n) := ⟨_, rfl⟩
  rw [hm.out, hr.out, hn.out, hs.out, hE.out] at C8
  rw [hn.out, hs.out] at C19
  rw [hm.out, hr.out, hn.out, hs.out, hE.out]
  have n0 : 0 ≤ n := by have := hn.out; omega
  have n1 : n < 1000000000 := by have := hn.out; omega
  have m0 : 0 ≤ m := by have := hm.out; omega
  have m1 : m < 1000000000 := by have := hm.out; omega
  have hb := and_both n m n0 n1 m0 m1
  have e1 : IntKind.i64.wrap (s - r) = s - r := by have := hs.out; have := hr.out; rw [IntKind.wrap_i64]; omega
  have e2 : IntKind.i64.wrap ((s - r) * 1000000000) = (s - r) * 1000000000 := by have := hs.out; have := hr.out; have := hn.out; have := hm.out; rw [IntKind.wrap_i64]; omega
  have e3 : IntKind.i32.wrap (n - m) = n - m := by rw [IntKind.wrap_i32]; omega
  have e4 : IntKind.i64.wrap (n - m) = n - m := by rw [IntKind.wrap_i64]; omega
  have e5 : IntKind.i64.wrap ((s - r) * 1000000000 + (n - m)) = E := by have := hs.out; have := hr.out; have := hn.out; have := hm.out; have := hE.out; rw [IntKind.wrap_i64]; omega
  clear y1 y2 d1 d2
  have hmix := mixed
  go_enter Try.func16, Try.ntmps16
  go_wp2_with fail
  refine (sec (n := n) (s := s) (by simp) (by simp) n0 n1).mono ?_
  rintro e w' ⟨rfl, rfl⟩
  go_wp2_with fail
  refine (sec (n := m) (s := r) (by simp) (by simp) m0 m1).mono ?_
  rintro e w' ⟨rfl, rfl⟩
  go_wp2_with fail
  refine (nsec (n := n) (by simp) n0 n1).mono ?_
  rintro e w' ⟨rfl, rfl⟩
  go_wp2_with fail
  refine (nsec (n := m) (by simp) m0 m1).mono ?_
  rintro e w' ⟨rfl, rfl⟩
  go_wp2_with fail
  have G : Hid (Gr w ((w.alloc (Obj.cells #[Value.int IntKind.u64 n, Value.int IntKind.i64 s, Value.pointer none] 29)).alloc (Obj.cells #[Value.int IntKind.u64 m, Value.int IntKind.i64 r, Value.pointer none] 29))) := ((Gr.refl _).alloc _).alloc _
  have hsz : ((w.alloc (Obj.cells #[Value.int IntKind.u64 n, Value.int IntKind.i64 s, Value.pointer none] 29)).alloc (Obj.cells #[Value.int IntKind.u64 m, Value.int IntKind.i64 r, Value.pointer none] 29)).heap.size = w.heap.size + 2 := by simp
  have a0 : ((w.alloc (Obj.cells #[Value.int IntKind.u64 n, Value.int IntKind.i64 s, Value.pointer none] 29)).alloc (Obj.cells #[Value.int IntKind.u64 m, Value.int IntKind.i64 r, Value.pointer none] 29)).cell? ⟨w.heap.size, 0, none⟩ = some (.int .u64 n) := by simp
  have a1 : ((w.alloc (Obj.cells #[Value.int IntKind.u64 n, Value.int IntKind.i64 s, Value.pointer none] 29)).alloc (Obj.cells #[Value.int IntKind.u64 m, Value.int IntKind.i64 r, Value.pointer none] 29)).cell? ⟨w.heap.size, 1, none⟩ = some (.int .i64 s) := by simp
  have a2 : ((w.alloc (Obj.cells #[Value.int IntKind.u64 n, Value.int IntKind.i64 s, Value.pointer none] 29)).alloc (Obj.cells #[Value.int IntKind.u64 m, Value.int IntKind.i64 r, Value.pointer none] 29)).cell? ⟨w.heap.size, 2, none⟩ = some (.pointer none) := by simp
  have b0 : ((w.alloc (Obj.cells #[Value.int IntKind.u64 n, Value.int IntKind.i64 s, Value.pointer none] 29)).alloc (Obj.cells #[Value.int IntKind.u64 m, Value.int IntKind.i64 r, Value.pointer none] 29)).cell? ⟨w.heap.size + 1, 0, none⟩ = some (.int .u64 m) := by simp
  have b1 : ((w.alloc (Obj.cells #[Value.int IntKind.u64 n, Value.int IntKind.i64 s, Value.pointer none] 29)).alloc (Obj.cells #[Value.int IntKind.u64 m, Value.int IntKind.i64 r, Value.pointer none] 29)).cell? ⟨w.heap.size + 1, 1, none⟩ = some (.int .i64 r) := by simp
  have b2 : ((w.alloc (Obj.cells #[Value.int IntKind.u64 n, Value.int IntKind.i64 s, Value.pointer none] 29)).alloc (Obj.cells #[Value.int IntKind.u64 m, Value.int IntKind.i64 r, Value.pointer none] 29)).cell? ⟨w.heap.size + 1, 2, none⟩ = some (.pointer none) := by simp
  generalize ((w.alloc (Obj.cells #[Value.int IntKind.u64 n, Value.int IntKind.i64 s, Value.pointer none] 29)).alloc (Obj.cells #[Value.int IntKind.u64 m, Value.int IntKind.i64 r, Value.pointer none] 29)) = W at *
  have A0 := cell_grown (World.block_lt_of_cell? W _ a0) a0
  have A1 := cell_grown (World.block_lt_of_cell? W _ a1) a1
  have A2 := cell_grown (World.block_lt_of_cell? W _ a2) a2
  have B0 := cell_grown (World.block_lt_of_cell? W _ b0) b0
  have B1 := cell_grown (World.block_lt_of_cell? W _ b1) b1
  have B2 := cell_grown (World.block_lt_of_cell? W _ b2) b2
  clear a0 a1 a2 b0 b1 b2 hsz
  go_quiet_grown (first | (go_at_call 8; refine Calls.grown_of ((C8 _).mono (fun e w' h => ⟨h.1, h.2.form⟩))) | (go_at_call 19; refine Calls.grown_of ((C19 _).mono (fun e w' h => ⟨h.1, h.2.form⟩))))
  clear A0 A1 A2 B0 B1 B2 C8 C19
  have G2 : Hid (Gr w (grow (W.drewN nq) osq)) := G.out.trans (Gr.grown _ _ _)
  generalize grow (W.drewN nq) osq = W2 at *
  go_wp2
  go_ret
  exact ⟨rfl, G2.out⟩
end Go.Proofs.Qxb6615843a
