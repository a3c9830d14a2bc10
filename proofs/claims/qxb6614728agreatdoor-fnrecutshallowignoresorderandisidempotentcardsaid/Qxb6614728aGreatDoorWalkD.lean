import Derived.Test.Qxb6614728aGreatDoorWalkC
import Derived.ChangeKeysEq
namespace Go.Proofs.Qxb6614728aGreatDoor
open Go.RowKit

theorem Tryz.info25 : (Tryz.prog.info? 25).map (fun i => (i.zero, i.size, i.bytes)) = some (some (.agg #[.int .i64 0, .int .i64 0, .int .i64 0]), 3, 24) := by kernel_rfl
theorem Tryz.info37 : (Tryz.prog.info? 37).map (fun i => (i.zero, i.size, i.bytes)) = some (some (.agg #[.int .i64 0, .int .i64 0, .int .i64 0]), 3, 24) := by kernel_rfl

def OwnF (w : World) (B : Nat) (e : TypeId) (v : Value) (fs : List F3) : Prop := w.ownsRow B e 3 v fs.length (flat fs)

theorem madeThree (n : Nat) : (madeCells #[.int .i64 0, .int .i64 0, .int .i64 0] (n * 3)).toList = flat (List.replicate n (0, 0, 0)) := by
  rw [flat_rep]
  apply List.ext_getElem
  · simp [madeCells]
  · intro i h1 h2
    simp [madeCells]
    have : i % 3 = 0 ∨ i % 3 = 1 ∨ i % 3 = 2 := by omega
    rcases this with h | h | h <;> simp [h]

set_option maxHeartbeats 400000 in
theorem revI_some (b off cap : Nat) (zs : List Int) (w : World) (hm : zs.length ≤ 4096) (hc : ∀ j, j < zs.length → w.cell? ⟨b, off + j, none⟩ = some (.int .i64 (zs.getD j 0))) :
    Calls Tryz.prog 13 #[.slice (some ⟨b, off, none⟩) zs.length cap] w fun e w' => e = .returned (.slice (some ⟨w.heap.size, 0, none⟩) zs.length zs.length) ∧
      w'.ownsRow w.heap.size 3 1 (.slice (some ⟨w.heap.size, 0, none⟩) zs.length zs.length) zs.length (zs.reverse.map (Value.int .i64)) ∧ w.grownBy w' none := by
  obtain ⟨i0, hi, hz0, hz1, hz2⟩ := info_parts Tryz.info3
  have hbt : i0.bytes * zs.length ≤ 281474976710656 := by rw [hz2]; omega
  have hml : zs.length ≤ maxLen := by unfold maxLen; omega
  have hnil := Tryz.nilInts
  go_enter Tryz.func13, Tryz.ntmps13
  go_wp2_with (first | (at_make; refine wpList_make_full _ rfl _ _ 22 rfl w.heap.size 3 i0 (.int .i64 0) 1 Tryz.underlying22 hi hz0 hz1 _ _ _ _ zs.length rfl rfl rfl rfl hbt hml (Nat.le_refl _) ?_))
  intro w1 hown hgrow
  rw [toList_madeCells_one, ← List.map_replicate (f := Value.int .i64), ← rv_zero] at hown
  go_wp2
  go_loopw [4] (fun i wr => ∃ k : Nat, k ≤ zs.length ∧ i = .int .i64 k ∧ wr.ownsRow w.heap.size 3 1 (.slice (some ⟨w.heap.size, 0, none⟩) zs.length zs.length) zs.length ((rv 0 zs k).map (Value.int .i64)) ∧ w.grownBy wr none) (fun i _ => zs.length - (intOf i).toNat)
  case atStart => exact ⟨0, Nat.zero_le _, rfl, hown, hgrow⟩
  case round =>
    obtain ⟨k, hk, rfl, hown', hgrow'⟩ := hrel
    by_cases hlt : k < zs.length
    · have c1 : wr.cell? ⟨b, off + k, none⟩ = some (.int .i64 zs[k]) := by
        have := hc k hlt
        simp only [List.getD_eq_getElem?_getD, List.getElem?_eq_getElem hlt, Option.getD_some] at this
        exact hgrow'.cell this (by simp)
      have c2 := hown'.frozenAt (zs.length - 1 - k)
      have hl : zs.length - 1 - k < ((rv 0 zs k).map (Value.int .i64)).length := by simp [rv_len 0 zs k hk]; omega
      have c3 : wr.cell? ⟨w.heap.size, zs.length - 1 - k, none⟩ = some ((List.map (Value.int .i64) (rv 0 zs k))[zs.length - 1 - k]'hl) := by
        rw [hown'.cellAt _ (by omega), List.getElem?_eq_getElem hl]
      generalize ((List.map (Value.int .i64) (rv 0 zs k))[zs.length - 1 - k]'hl) = old at c3
      have hst := (hown'.stored (zs.length - 1 - k) (.int .i64 zs[k])).1
      rw [← List.map_set, rv_set 0 zs k hlt] at hst
      clear hl
      go_wp2
      go_roundw
      case rel => exact ⟨k + 1, by omega, by go_num, hst, gb_set hgrow' (by simp) _⟩
      case measure => simp [intOf]; omega
    · go_wp2
      go_ret
      have : k = zs.length := by omega
      subst this
      rw [rv_end] at hown'
      exact ⟨rfl, hown', hgrow'⟩

set_option maxHeartbeats 400000 in
theorem revF_some (b off cap : Nat) (fs : List F3) (w : World) (hm : fs.length ≤ 4096) (hc : Cells3 w b off fs) :
    Calls Tryz.prog 14 #[.slice (some ⟨b, off, none⟩) fs.length cap] w fun e w' => e = .returned (.slice (some ⟨w.heap.size, 0, none⟩) fs.length fs.length) ∧
      w'.ownsRow w.heap.size 25 3 (.slice (some ⟨w.heap.size, 0, none⟩) fs.length fs.length) fs.length (flat fs.reverse) ∧ w.grownBy w' none := by
  obtain ⟨i0, hi, hz0, hz1, hz2⟩ := info_parts Tryz.info25
  have hbt : i0.bytes * fs.length ≤ 281474976710656 := by rw [hz2]; omega
  have hml : fs.length ≤ maxLen := by unfold maxLen; omega
  have hnil := Tryz.nilFacts
  go_enter Tryz.func14, Tryz.ntmps14
  go_wp2_with (first | (at_make; refine wpList_make_full _ rfl _ _ 23 rfl w.heap.size 25 i0 _ 3 Tryz.underlying23 hi hz0 hz1 _ _ _ _ fs.length rfl rfl rfl rfl hbt hml (Nat.le_refl _) ?_))
  intro w1 hown hgrow
  rw [madeThree, ← rv_zero (z := ((0, 0, 0) : F3))] at hown
  go_wp2
  go_loopw [4] (fun i wr => ∃ k : Nat, k ≤ fs.length ∧ i = .int .i64 k ∧ wr.ownsRow w.heap.size 25 3 (.slice (some ⟨w.heap.size, 0, none⟩) fs.length fs.length) fs.length (flat (rv (0, 0, 0) fs k)) ∧ w.grownBy wr none) (fun i _ => fs.length - (intOf i).toNat)
  case atStart => exact ⟨0, Nat.zero_le _, rfl, hown, hgrow⟩
  case round =>
    obtain ⟨k, hk, rfl, hown', hgrow'⟩ := hrel
    by_cases hlt : k < fs.length
    · obtain ⟨x0, x1, x2⟩ := hc k hlt
      have c0 := hgrow'.cell x0 (by simp)
      have c1 := hgrow'.cell x1 (by simp)
      have c2 := hgrow'.cell x2 (by simp)
      clear x0 x1 x2
      have hl : fs.length - 1 - k < (rv (0, 0, 0) fs k).length := by rw [rv_len (0, 0, 0) fs k hk]; omega
      have f0 := hown'.frozenAt ((fs.length - 1 - k) * 3)
      have f1 := hown'.frozenAt ((fs.length - 1 - k) * 3 + 1)
      have f2 := hown'.frozenAt ((fs.length - 1 - k) * 3 + 2)
      obtain ⟨g0, g1, g2⟩ := flat_get (rv (0, 0, 0) fs k) _ hl
      rw [← hown'.cellAt _ (by omega)] at g0 g1 g2
      generalize (rv (0, 0, 0) fs k)[fs.length - 1 - k]'hl = old at g0 g1 g2
      have hst := ((((hown'.stored ((fs.length - 1 - k) * 3) (.int .i64 fs[k].1)).1).stored ((fs.length - 1 - k) * 3 + 1) (.int .i64 fs[k].2.1)).1.stored ((fs.length - 1 - k) * 3 + 2) (.int .i64 fs[k].2.2)).1
      rw [flat_set _ _ _ hl, rv_set (0, 0, 0) fs k hlt] at hst
      clear hl
      go_wp2
      go_roundw
      case rel => exact ⟨k + 1, by omega, by go_num, hst, gb_set (gb_set (gb_set hgrow' (by simp) _) (by simp) _) (by simp) _⟩
      case measure => simp [intOf]; omega
    · go_wp2
      go_ret
      have : k = fs.length := by omega
      subst this
      rw [rv_end] at hown'
      exact ⟨rfl, hown', hgrow'⟩

theorem revI_nil (n cap : Nat) (w : World) :
    Calls Tryz.prog 13 #[.slice none n cap] w fun e w' => e = .returned (.slice none 0 0) ∧ w' = w := by
  have hnil := Tryz.nilInts
  go_enter Tryz.func13, Tryz.ntmps13
  go_wp2
  go_ret
  exact ⟨rfl, rfl⟩
theorem revF_nil (n cap : Nat) (w : World) :
    Calls Tryz.prog 14 #[.slice none n cap] w fun e w' => e = .returned (.slice none 0 0) ∧ w' = w := by
  have hnil := Tryz.nilFacts
  go_enter Tryz.func14, Tryz.ntmps14
  go_wp2
  go_ret
  exact ⟨rfl, rfl⟩

set_option maxHeartbeats 400000 in
theorem revI_zero (x : Addr) (cap : Nat) (w : World) :
    Calls Tryz.prog 13 #[.slice (some x) 0 cap] w fun e w' => e = .returned (.slice (some ⟨w.heap.size, 0, none⟩) 0 0) ∧
      w'.ownsRow w.heap.size 3 1 (.slice (some ⟨w.heap.size, 0, none⟩) 0 0) 0 [] ∧ w.grownBy w' none := by
  obtain ⟨i0, hi, hz0, hz1, hz2⟩ := info_parts Tryz.info3
  have hnil := Tryz.nilInts
  go_enter Tryz.func13, Tryz.ntmps13
  go_wp2_with (first | (at_make; refine wpList_make_full _ rfl _ _ 22 rfl w.heap.size 3 i0 (.int .i64 0) 1 Tryz.underlying22 hi hz0 hz1 _ _ _ _ 0 rfl rfl rfl rfl (by simp) (by simp) (Nat.le_refl _) ?_))
  intro w1 hown hgrow
  go_wp2
  refine wp_loop_rounds 1 ?_
  rw [rounds_succ]
  go_wp2
  go_ret
  exact ⟨rfl, by simpa [madeCells] using hown, hgrow⟩
theorem revI_any (a : Option Addr) (cap : Nat) (zs : List Int) (w : World) (h : IntsAt w a zs) (hm : zs.length ≤ 4096) :
    Calls Tryz.prog 13 #[.slice a zs.length cap] w fun e w' => ∃ a' c', e = .returned (.slice a' zs.reverse.length c') ∧ OwnI w' w.heap.size (.slice a' zs.reverse.length c') zs.reverse ∧ w.grownBy w' none := by
  rcases h with rfl | ⟨b, off, rfl, hb, hc⟩
  · cases a with
    | none => exact (revI_nil _ _ w).mono fun e w' ⟨he, hw⟩ => ⟨_, _, he, World.ownsRow_nil _ _ _ _, by subst hw; exact World.grownBy.refl _ _⟩
    | some x => exact (revI_zero x cap w).mono fun e w' ⟨he, ho, hg⟩ => ⟨_, _, he, ho, hg⟩
  · exact (revI_some b off cap zs w hm hc).mono fun e w' ⟨he, ho, hg⟩ => ⟨some ⟨w.heap.size, 0, none⟩, zs.length, by rw [List.length_reverse]; exact he, by unfold OwnI; rw [List.length_reverse]; exact ho, hg⟩
/-- At a slice of the call's own, or nil. -/
theorem revF_any (B : Nat) (a : Option Addr) (cap : Nat) (fs : List F3) (w : World) (h : OwnF w B 25 (.slice a fs.length cap) fs) (hm : fs.length ≤ 4096) :
    Calls Tryz.prog 14 #[.slice a fs.length cap] w fun e w' => ∃ a' c', e = .returned (.slice a' fs.reverse.length c') ∧ OwnF w' w.heap.size 25 (.slice a' fs.reverse.length c') fs.reverse ∧ w.grownBy w' none := by
  rcases h.2 with ⟨h0, h1⟩ | ⟨g, cap', cur, h0, _⟩
  · injection h0 with h0 _ _
    subst h0
    have : fs = [] := List.eq_nil_of_length_eq_zero h1
    subst this
    exact (revF_nil _ _ w).mono fun e w' ⟨he, hw⟩ => ⟨_, _, he, World.ownsRow_nil _ _ _ _, by subst hw; exact World.grownBy.refl _ _⟩
  · injection h0 with h0 _ _
    subst h0
    have hc : Cells3 w g 0 fs := fun j hj => by
      obtain ⟨g0, g1, g2⟩ := flat_get fs j hj
      rw [← World.ownsRow.cellAt h _ (by omega)] at g0 g1 g2
      rw [Nat.zero_add]
      exact ⟨g0, g1, g2⟩
    exact (revF_some g 0 cap fs w hm hc).mono fun e w' ⟨he, ho, hg⟩ => ⟨some ⟨w.heap.size, 0, none⟩, fs.length, by rw [List.length_reverse]; exact he, by unfold OwnF; rw [List.length_reverse]; exact ho, hg⟩

/-! rcEqualInts, rcEqualFacts at equal contents. -/
set_option maxHeartbeats 400000 in
theorem eqI_some (b off cap b' off' cap' : Nat) (zs : List Int) (w : World) (hm : zs.length ≤ 4096) (hc : ∀ j, j < zs.length → w.cell? ⟨b, off + j, none⟩ = some (.int .i64 (zs.getD j 0))) (hc' : ∀ j, j < zs.length → w.cell? ⟨b', off' + j, none⟩ = some (.int .i64 (zs.getD j 0))) :
    Calls Tryz.prog 15 #[.slice (some ⟨b, off, none⟩) zs.length cap, .slice (some ⟨b', off', none⟩) zs.length cap'] w fun e w' => e = .returned (.bool true) ∧ ∃ q, w' = w.drewN q := by
  go_enter Tryz.func15, Tryz.ntmps15
  go_wp2
  go_loopw [5] (fun i wr => (∃ k : Nat, k ≤ zs.length ∧ i = .int .i64 k) ∧ ∃ q, wr = w.drewN q) (fun i _ => zs.length - (intOf i).toNat)
  case atStart => exact ⟨⟨0, Nat.zero_le _, rfl⟩, 0, rfl⟩
  case round =>
    obtain ⟨⟨k, hk, rfl⟩, q, rfl⟩ := hrel
    by_cases hlt : k < zs.length
    · have c1 := hc k hlt
      have c2 := hc' k hlt
      go_wp2
      go_quiet (fail)
      go_wp2
      go_roundw
      case rel => exact ⟨⟨k + 1, by omega, by go_num⟩, _, rfl⟩
      case measure => simp [intOf]; omega
    · go_wp2
      go_ret
      exact ⟨rfl, _, rfl⟩
set_option maxHeartbeats 400000 in
theorem eqI_zero (a a' : Option Addr) (cap cap' : Nat) (w : World) :
    Calls Tryz.prog 15 #[.slice a 0 cap, .slice a' 0 cap'] w fun e w' => e = .returned (.bool true) ∧ ∃ q, w' = w.drewN q := by
  go_enter Tryz.func15, Tryz.ntmps15
  go_wp2
  refine wp_loop_rounds 1 ?_
  rw [rounds_succ]
  go_wp2
  go_ret
  exact ⟨rfl, 0, rfl⟩
theorem eqI_any (a a' : Option Addr) (cap cap' : Nat) (zs : List Int) (w : World) (hm : zs.length ≤ 4096) (h : IntsAt w a zs) (h' : IntsAt w a' zs) :
    Calls Tryz.prog 15 #[.slice a zs.length cap, .slice a' zs.length cap'] w fun e w' => e = .returned (.bool true) ∧ ∃ q, w' = w.drewN q := by
  rcases h with rfl | ⟨b, off, rfl, hb, hc⟩
  · exact eqI_zero _ _ _ _ w
  · rcases h' with rfl | ⟨b', off', rfl, hb', hc'⟩
    · exact eqI_zero _ _ _ _ w
    · exact eqI_some b off cap b' off' cap' zs w hm hc hc'

theorem cells3 : Tryz.prog.cellsOf 3 = 1 := by kernel_rfl
theorem part3 (a b c : Int) (w : World) : (part 3 #[.int .i64 a, .int .i64 b, .int .i64 c] 0).run Tryz.prog w = .ok (.int .i64 a) w ∧ (part 3 #[.int .i64 a, .int .i64 b, .int .i64 c] 1).run Tryz.prog w = .ok (.int .i64 b) w ∧ (part 3 #[.int .i64 a, .int .i64 b, .int .i64 c] 2).run Tryz.prog w = .ok (.int .i64 c) w := ⟨by kernel_rfl, by kernel_rfl, by kernel_rfl⟩
theorem neqArr (x y z : Int) (w : World) : (binOp .neq 25 (.agg #[.int .i64 x, .int .i64 y, .int .i64 z]) (.agg #[.int .i64 x, .int .i64 y, .int .i64 z])).run Tryz.prog w = .ok (.bool false) w := by
  obtain ⟨i0, hi, _⟩ := info_parts Tryz.info3
  have h : (Op.equalIn (9999 + 1) 25 (.agg #[.int .i64 x, .int .i64 y, .int .i64 z]) (.agg #[.int .i64 x, .int .i64 y, .int .i64 z])).run Tryz.prog w = .ok true w := by
    rw [run_equalIn_array w 9999 _ _ Tryz.underlying25 hi, cells3]
    have hr : List.range 3 = [0, 1, 2] := rfl
    rw [hr]
    have e := fun a => run_equalIn_int (P := Tryz.prog) w 9998 3 .i64 .i64 a a Tryz.underlying3
    simp only [Nat.reduceAdd, beq_self_eq_true] at e
    obtain ⟨p0, p1, p2⟩ := part3 x y z w
    simp only [Op.eqItems, Sem.run_bind, Nat.mul_one, p0, p1, p2, Result.andThen_ok, e, Bool.not_true, Bool.false_eq_true, if_false, Sem.run_pure]
  simp only [binOp, Op.equal, Op.maxDepth, Sem.run_bind, h, Result.andThen_ok, Sem.run_pure, Bool.not_true]

set_option maxHeartbeats 400000 in
theorem eqF_some (b off cap b' off' cap' : Nat) (fs : List F3) (w : World) (hm : fs.length ≤ 4096) (hc : Cells3 w b off fs) (hc' : Cells3 w b' off' fs) :
    Calls Tryz.prog 16 #[.slice (some ⟨b, off, none⟩) fs.length cap, .slice (some ⟨b', off', none⟩) fs.length cap'] w fun e w' => e = .returned (.bool true) ∧ ∃ q, w' = w.drewN q := by
  have hne := neqArr
  go_enter Tryz.func16, Tryz.ntmps16
  go_wp2
  go_loopw [5] (fun i wr => (∃ k : Nat, k ≤ fs.length ∧ i = .int .i64 k) ∧ ∃ q, wr = w.drewN q) (fun i _ => fs.length - (intOf i).toNat)
  case atStart => exact ⟨⟨0, Nat.zero_le _, rfl⟩, 0, rfl⟩
  case round =>
    obtain ⟨⟨k, hk, rfl⟩, q, rfl⟩ := hrel
    by_cases hlt : k < fs.length
    · obtain ⟨x0, x1, x2⟩ := hc k hlt
      obtain ⟨y0, y1, y2⟩ := hc' k hlt
      go_wp2
      go_quiet (fail)
      go_wp2
      go_roundw
      case rel => exact ⟨⟨k + 1, by omega, by go_num⟩, _, rfl⟩
      case measure => simp [intOf]; omega
    · go_wp2
      go_ret
      exact ⟨rfl, _, rfl⟩

set_option maxHeartbeats 400000 in
theorem eqF_zero (a a' : Option Addr) (cap cap' : Nat) (w : World) :
    Calls Tryz.prog 16 #[.slice a 0 cap, .slice a' 0 cap'] w fun e w' => e = .returned (.bool true) ∧ ∃ q, w' = w.drewN q := by
  go_enter Tryz.func16, Tryz.ntmps16
  go_wp2
  refine wp_loop_rounds 1 ?_
  rw [rounds_succ]
  go_wp2
  go_ret
  exact ⟨rfl, 0, rfl⟩
theorem eqF_any (a a' : Option Addr) (cap cap' : Nat) (fs : List F3) (w : World) (hm : fs.length ≤ 4096) (h : FactsAt w a fs) (h' : FactsAt w a' fs) :
    Calls Tryz.prog 16 #[.slice a fs.length cap, .slice a' fs.length cap'] w fun e w' => e = .returned (.bool true) ∧ ∃ q, w' = w.drewN q := by
  rcases h with rfl | ⟨b, off, rfl, hb, hc⟩
  · exact eqF_zero _ _ _ _ w
  · rcases h' with rfl | ⟨b', off', rfl, hb', hc'⟩
    · exact eqF_zero _ _ _ _ w
    · exact eqF_some b off cap b' off' cap' fs w hm hc hc'
end Go.Proofs.Qxb6614728aGreatDoor
