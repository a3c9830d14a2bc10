import Derived.Test.Qxb6615843aTimeD
namespace Go.Proofs.Qxb6615843a
open Go.RowKit Go.Sort

theorem floor_div (d p q r : Int) (hp : 0 < p) (hq : d.tdiv p = q) (hr : d.tmod p = r) : d / p = if r < 0 then q - 1 else q := by
  have h1 : q * p + r = d := by rw [← hq, ← hr]; exact Int.tdiv_mul_add_tmod d p
  have h2 : r < p := by rw [← hr]; exact Int.tmod_lt_of_pos d hp
  have h3 : -p < r := by rw [← hr]; have := Int.lt_tmod_of_pos d hp; omega
  split
  · refine ((Int.ediv_emod_unique (r := r + p) hp).2 ⟨?_, by omega, by omega⟩).1
    rw [Int.mul_sub, Int.mul_one, Int.mul_comm p q]; omega
  · refine ((Int.ediv_emod_unique (r := r) hp).2 ⟨?_, by omega, by omega⟩).1
    rw [Int.mul_comm p q]; omega

theorem tdiv_small (d p : Int) (h1 : -9223372036854775807 ≤ d) (h2 : d ≤ 9223372036854775807) : -9223372036854775807 ≤ d.tdiv p ∧ d.tdiv p ≤ 9223372036854775807 := by
  have := Int.natAbs_tdiv_le_natAbs d p
  omega

set_option maxRecDepth 100000 in
set_option maxHeartbeats 400000 in
theorem closure15 (t o sh p : Int) (w : World) (bw bo bs bp : Nat) (c0 : w.cell? ⟨bw, 0, none⟩ = some (.pointer (some ⟨bo, 0, none⟩))) (c1 : w.cell? ⟨bs, 0, none⟩ = some (.int .i64 sh)) (c2 : w.cell? ⟨bp, 0, none⟩ = some (.int .i64 p))
    (o0 : w.cell? ⟨bo, 6, none⟩ = some (.int .u64 (o % 1000000000))) (o1 : w.cell? ⟨bo, 7, none⟩ = some (.int .i64 (o / 1000000000))) (o2 : w.cell? ⟨bo, 8, none⟩ = some (.pointer none))
    (y1 : -9000000000000000000 ≤ o) (y2 : o ≤ 9000000000000000000) (d1 : -9000000000000000000 ≤ t - o) (d2 : t - o ≤ 9000000000000000000) (e1 : -9223372036854775807 ≤ t - o + sh) (e2 : t - o + sh ≤ 9223372036854775807) (hp : 0 < p) :
    Calls Try.prog 15 #[tm t, .pointer (some ⟨bw, 0, none⟩), .pointer (some ⟨bs, 0, none⟩), .pointer (some ⟨bp, 0, none⟩)] w fun e w' => e = .returned (.int .i64 ((t - o + sh) / p)) ∧ Gr w w' := by
  have C16 := fun W => subT t o W y1 y2 d1 d2
  unfold tm raw at C16 ⊢
  generalize o % 1000000000 = m at o0 C16
  generalize o / 1000000000 = r at o1 C16
  generalize t % 1000000000 = n at C16 ⊢
  generalize t / 1000000000 = s at C16 ⊢
  generalize t - o = u at C16 e1 e2 ⊢
  have hq := tdiv_small (u + sh) p e1 e2
  have ew0 : IntKind.i64.wrap (u + sh) = u + sh := by rw [IntKind.wrap_i64]; omega
  obtain ⟨D, hD⟩ : ∃ D, u + sh = D := ⟨_, rfl⟩
  rw [hD] at hq ⊢
  have ew : IntKind.i64.wrap (u + sh) = D := ew0.trans hD
  clear hD ew0
  have hfl := floor_div D p _ _ hp rfl rfl
  have wq : IntKind.i64.wrap (D.tdiv p) = D.tdiv p := by rw [IntKind.wrap_i64]; omega
  have wq1 : IntKind.i64.wrap (D.tdiv p - 1) = D.tdiv p - 1 := by rw [IntKind.wrap_i64]; omega
  generalize hfq : D.tdiv p = q at hq hfl wq wq1
  generalize hfr : D.tmod p = R at hfl
  have HF : Hid (D / p = if R < 0 then q - 1 else q) := hfl
  have hp0 : (p == 0) = false := by simp; omega
  clear hfl hq e1 e2 d1 d2 y1 y2
  have hmix := mixed
  have G : Hid (Gr w (w.alloc (Obj.cells #[Value.int IntKind.u64 n, Value.int IntKind.i64 s, Value.pointer none] 29))) := (Gr.refl _).alloc _
  have a0 : (w.alloc (Obj.cells #[Value.int IntKind.u64 n, Value.int IntKind.i64 s, Value.pointer none] 29)).cell? ⟨w.heap.size, 0, none⟩ = some (.int .u64 n) := by simp
  have a1 : (w.alloc (Obj.cells #[Value.int IntKind.u64 n, Value.int IntKind.i64 s, Value.pointer none] 29)).cell? ⟨w.heap.size, 1, none⟩ = some (.int .i64 s) := by simp
  have a2 : (w.alloc (Obj.cells #[Value.int IntKind.u64 n, Value.int IntKind.i64 s, Value.pointer none] 29)).cell? ⟨w.heap.size, 2, none⟩ = some (.pointer none) := by simp
  have hc0 := G.out.cell c0
  have hc1 := G.out.cell c1
  have hc2 := G.out.cell c2
  have ho0 := G.out.cell o0
  have ho1 := G.out.cell o1
  have ho2 := G.out.cell o2
  clear c0 c1 c2 o0 o1 o2
  go_enter Try.func15, Try.ntmps15
  go_wp2_with fail
  generalize w.alloc (Obj.cells #[Value.int IntKind.u64 n, Value.int IntKind.i64 s, Value.pointer none] 29) = W at *
  have A0 := cell_grown (World.block_lt_of_cell? W _ a0) a0
  have A1 := cell_grown (World.block_lt_of_cell? W _ a1) a1
  have A2 := cell_grown (World.block_lt_of_cell? W _ a2) a2
  have B0 := cell_grown (World.block_lt_of_cell? W _ hc0) hc0
  have B1 := cell_grown (World.block_lt_of_cell? W _ hc1) hc1
  have B2 := cell_grown (World.block_lt_of_cell? W _ hc2) hc2
  have D0 := cell_grown (World.block_lt_of_cell? W _ ho0) ho0
  have D1 := cell_grown (World.block_lt_of_cell? W _ ho1) ho1
  have D2 := cell_grown (World.block_lt_of_cell? W _ ho2) ho2
  clear a0 a1 a2 hc0 hc1 hc2 ho0 ho1 ho2
  go_quiet_grown (first | (go_at_call 16; refine Calls.grown_of ((C16 _).mono (fun e w' h => ⟨h.1, h.2.form⟩))))
  have E2 := B2 nq osq
  clear A0 A1 A2 B0 B1 B2 C16 D0 D1 D2
  have G2 : Hid (Gr w (grow (W.drewN nq) osq)) := G.out.trans (Gr.grown _ _ _)
  generalize grow (W.drewN nq) osq = W2 at *
  by_cases hneg : R < 0
  · have HF2 : Hid (D / p = q - 1) := by have := HF.out; rw [if_pos hneg] at this; exact this
    have b1 : decide (R < 0) = true := by simp; omega
    go_wp2
    go_ret
    exact ⟨by rw [HF2.out]; rfl, G2.out⟩
  · have HF2 : Hid (D / p = q) := by have := HF.out; rw [if_neg hneg] at this; exact this
    have b1 : decide (R < 0) = false := by simp; omega
    go_wp2
    go_ret
    exact ⟨by rw [HF2.out]; rfl, G2.out⟩
end Go.Proofs.Qxb6615843a
