import Derived.Test.Qxb6614728aGreatDoorWalkB
import Derived.OwnWalk
import Derived.WalkSpells
namespace Go.Proofs.Qxb6614728aGreatDoor
open Go.RowKit

theorem Tryz.info3 : (Tryz.prog.info? 3).map (fun i => (i.zero, i.size, i.bytes)) = some (some (.int .i64 0), 1, 8) := by kernel_rfl

theorem gb_set {w wr : World} {row : Option Nat} (h : w.grownBy wr row) {p : Addr} (hp : w.heap.size ≤ p.block) (u : Value) : w.grownBy (wr.setCell p u) row :=
  ⟨h.os, h.tape, h.output, by simpa [World.setCell] using h.size, fun k hk hne => (Below.heap_setCell _ _ _ _ (by omega)).trans (h.block k hk hne)⟩
theorem gb_alloc {w wr : World} {row : Option Nat} (h : w.grownBy wr row) (o : Obj) : w.grownBy (wr.alloc o) row :=
  ⟨h.os, h.tape, h.output, by have := h.size; simp; omega, fun k hk hne => (Below.heap_alloc _ _ k (by have := h.size; omega)).trans (h.block k hk hne)⟩
theorem gb_draw {w wr : World} {row : Option Nat} (h : w.grownBy wr row) (n : Nat) : w.grownBy (wr.drewN n) row := ⟨h.os, h.tape, h.output, h.size, h.block⟩
/-- A second step that writes to a new block, or to the same row. -/
theorem gb_trans {a b c : World} {r r' : Option Nat} (h : a.grownBy b r) (k : b.grownBy c r') (hr : ∀ j, r' = some j → j < a.heap.size → r = some j) : a.grownBy c r :=
  ⟨k.os.trans h.os, k.tape.trans h.tape, k.output.trans h.output, Nat.le_trans h.size k.size, fun i hi hne => (k.block i (by have := h.size; omega) (fun e => hne (by rw [hr i e.symm hi]))).trans (h.block i hi hne)⟩
theorem gb_below {w w' : World} {row : Option Nat} (h : w.grownBy w' row) {B : Nat} (hB : B ≤ w.heap.size) (hr : ∀ k, row = some k → B ≤ k) : Below B w w' :=
  (Below.refl _ _).grown h hB hr
theorem below_gb {w w' : World} (h : Below w.heap.size w w') : w.grownBy w' none := ⟨h.os, h.tape, h.output, h.size, fun k hk _ => h.block k hk⟩

/-- The clone, k rounds done. -/
def cl (zs : List Int) (k : Nat) : List Value := (zs.take k ++ List.replicate (zs.length - k) 0).map (Value.int .i64)
theorem cl_set (zs : List Int) (k : Nat) (hk : k < zs.length) : (cl zs k).set k (.int .i64 zs[k]) = cl zs (k + 1) := by
  unfold cl
  have e1 : List.replicate (zs.length - k) (0 : Int) = 0 :: List.replicate (zs.length - (k + 1)) 0 := by
    rw [show zs.length - k = zs.length - (k + 1) + 1 by omega]; rfl
  rw [e1, List.take_succ_eq_append_getElem hk]
  rw [List.map_append, List.map_append, List.map_append]
  rw [List.set_append_right _ _ (by simp; omega)]
  simp [Nat.min_eq_left (Nat.le_of_lt hk)]
theorem cl_len (zs : List Int) (k : Nat) (hk : k ≤ zs.length) : (cl zs k).length = zs.length := by simp [cl]; omega
theorem cl_end (zs : List Int) : cl zs zs.length = zs.map (Value.int .i64) := by simp [cl]
theorem cl_zero (zs : List Int) : cl zs 0 = (madeCells #[Value.int .i64 0] zs.length).toList := by
  rw [toList_madeCells_one]
  simp [cl]

set_option maxHeartbeats 400000 in
theorem clone_some (b off cap : Nat) (zs : List Int) (w : World) (hm : zs.length ≤ 4096) (_hb : b < w.heap.size) (hc : ∀ j, j < zs.length → w.cell? ⟨b, off + j, none⟩ = some (.int .i64 (zs.getD j 0))) :
    Calls Tryz.prog 6 #[.slice (some ⟨b, off, none⟩) zs.length cap] w fun e w' => e = .returned (.slice (some ⟨w.heap.size, 0, none⟩) zs.length zs.length) ∧
      w'.ownsRow w.heap.size 3 1 (.slice (some ⟨w.heap.size, 0, none⟩) zs.length zs.length) zs.length (zs.map (Value.int .i64)) ∧ w.grownBy w' none := by
  obtain ⟨i0, hi, hz0, hz1, hz2⟩ := info_parts Tryz.info3
  have hbt : i0.bytes * zs.length ≤ 281474976710656 := by rw [hz2]; omega
  have hml : zs.length ≤ maxLen := by unfold maxLen; omega
  have hnil := fun (w : World) (a : Option Addr) (n c n' c' : Nat) => Lib.run_eql_slice_nil (P := Tryz.prog) w 22 _ a n c n' c' Tryz.underlying22
  go_enter Tryz.func6, Tryz.ntmps6
  go_wp2_with (first | (at_make; refine wpList_make_full _ rfl _ _ 22 rfl w.heap.size 3 i0 (.int .i64 0) 1 Tryz.underlying22 hi hz0 hz1 _ _ _ _ zs.length rfl rfl rfl rfl hbt hml (Nat.le_refl _) ?_))
  intro w1 hown hgrow
  rw [← cl_zero] at hown
  go_wp2
  go_loopw [4] (fun i wr => ∃ k : Nat, k ≤ zs.length ∧ i = .int .i64 k ∧ wr.ownsRow w.heap.size 3 1 (.slice (some ⟨w.heap.size, 0, none⟩) zs.length zs.length) zs.length (cl zs k) ∧ w.grownBy wr none) (fun i _ => zs.length - (intOf i).toNat)
  case atStart => exact ⟨0, Nat.zero_le _, rfl, hown, hgrow⟩
  case round =>
    obtain ⟨k, hk, rfl, hown', hgrow'⟩ := hrel
    by_cases hlt : k < zs.length
    · have c1 : wr.cell? ⟨b, off + k, none⟩ = some (.int .i64 zs[k]) := by
        have := hc k hlt
        simp only [List.getD_eq_getElem?_getD, List.getElem?_eq_getElem hlt, Option.getD_some] at this
        exact hgrow'.cell this (by simp)
      have c2 := hown'.frozenAt k
      have c3 : wr.cell? ⟨w.heap.size, k, none⟩ = some ((cl zs k)[k]'(by rw [cl_len zs k hk]; exact hlt)) := by
        rw [hown'.cellAt k (by omega), List.getElem?_eq_getElem]
      generalize (cl zs k)[k]'(by rw [cl_len zs k hk]; exact hlt) = old at c3
      have hst := hown'.stored k (.int .i64 zs[k])
      rw [cl_set zs k hlt] at hst
      go_wp2
      go_roundw
      case rel => exact ⟨k + 1, by omega, by go_num, hst.1, gb_set hgrow' (by simp) _⟩
      case measure => simp [intOf]; omega
    · go_wp2
      go_ret
      have : k = zs.length := by omega
      subst this
      rw [cl_end] at hown'
      exact ⟨rfl, hown', hgrow'⟩

theorem Tryz.nilInts (w : World) (a : Option Addr) (n c n' c' : Nat) : (binOp .eql 22 (.slice a n c) (.slice none n' c')).run Tryz.prog w = .ok (.bool a.isNone) w := Lib.run_eql_slice_nil (P := Tryz.prog) w 22 _ a n c n' c' Tryz.underlying22
theorem Tryz.nilFacts (w : World) (a : Option Addr) (n c n' c' : Nat) : (binOp .eql 23 (.slice a n c) (.slice none n' c')).run Tryz.prog w = .ok (.bool a.isNone) w := Lib.run_eql_slice_nil (P := Tryz.prog) w 23 _ a n c n' c' Tryz.underlying23

theorem clone_nil (n cap : Nat) (w : World) :
    Calls Tryz.prog 6 #[.slice none n cap] w fun e w' => e = .returned (.slice none 0 0) ∧ w' = w := by
  have hnil := Tryz.nilInts
  go_enter Tryz.func6, Tryz.ntmps6
  go_wp2
  go_ret
  exact ⟨rfl, rfl⟩

/-- A slice of the call's own: it owns its cells (nil where it has none of its own). -/
def OwnI (w : World) (B : Nat) (v : Value) (zs : List Int) : Prop := w.ownsRow B 3 1 v zs.length (zs.map (Value.int .i64))

set_option maxHeartbeats 400000 in
theorem clone_zero (x : Addr) (cap : Nat) (w : World) :
    Calls Tryz.prog 6 #[.slice (some x) 0 cap] w fun e w' => e = .returned (.slice (some ⟨w.heap.size, 0, none⟩) 0 0) ∧
      w'.ownsRow w.heap.size 3 1 (.slice (some ⟨w.heap.size, 0, none⟩) 0 0) 0 [] ∧ w.grownBy w' none := by
  obtain ⟨i0, hi, hz0, hz1, hz2⟩ := info_parts Tryz.info3
  have hnil := Tryz.nilInts
  go_enter Tryz.func6, Tryz.ntmps6
  go_wp2_with (first | (at_make; refine wpList_make_full _ rfl _ _ 22 rfl w.heap.size 3 i0 (.int .i64 0) 1 Tryz.underlying22 hi hz0 hz1 _ _ _ _ 0 rfl rfl rfl rfl (by simp) (by simp) (Nat.le_refl _) ?_))
  intro w1 hown hgrow
  go_wp2
  refine wp_loop_rounds 1 ?_
  rw [rounds_succ]
  go_wp2
  go_ret
  exact ⟨rfl, by simpa [madeCells] using hown, hgrow⟩

/-- The clone. -/
theorem clone_any (a : Option Addr) (cap : Nat) (zs : List Int) (w : World) (h : IntsAt w a zs) (hm : zs.length ≤ 4096) :
    Calls Tryz.prog 6 #[.slice a zs.length cap] w fun e w' => ∃ a' c', e = .returned (.slice a' zs.length c') ∧ OwnI w' w.heap.size (.slice a' zs.length c') zs ∧ w.grownBy w' none := by
  rcases h with rfl | ⟨b, off, rfl, hb, hc⟩
  · cases a with
    | none => exact (clone_nil _ _ w).mono fun e w' ⟨he, hw⟩ => ⟨_, _, he, World.ownsRow_nil _ _ _ _, by subst hw; exact World.grownBy.refl _ _⟩
    | some x => exact (clone_zero x cap w).mono fun e w' ⟨he, ho, hg⟩ => ⟨_, _, he, ho, hg⟩
  · exact (clone_some b off cap zs w hm hb hc).mono fun e w' ⟨he, ho, hg⟩ => ⟨_, _, he, ho, hg⟩

theorem flat_one (L : List F3) : ∀ u ∈ flat L, u.oneCell' = true := by
  intro u hu
  simp only [flat, List.mem_flatMap] at hu
  obtain ⟨f, _, hf⟩ := hu
  simp [enc3] at hf
  rcases hf with rfl | rfl | rfl <;> rfl
end Go.Proofs.Qxb6614728aGreatDoor
