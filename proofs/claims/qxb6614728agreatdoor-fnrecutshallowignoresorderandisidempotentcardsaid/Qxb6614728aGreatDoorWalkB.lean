import Derived.Test.Qxb6614728aGreatDoorWalkA
import Derived.Test.Qxb6614728aGreatDoorPlainC
import Derived.Deep.QuietTactic
import Derived.BigQuiet
namespace Go.Proofs.Qxb6614728aGreatDoor
open Go.RowKit

theorem bs_lo (zs : List Int) (x : Int) (hs : zs.Pairwise (· < ·)) (m : Nat) (hm : m < zs.length) (h : zs[m] < x) : ∀ i (hi : i < zs.length), i < m + 1 → zs[i] < x := by
  intro i hi h1
  by_cases e : i = m
  · subst e; exact h
  · have := List.pairwise_iff_getElem.1 hs i m hi hm (by omega)
    omega
theorem bs_hi (zs : List Int) (x : Int) (hs : zs.Pairwise (· < ·)) (m : Nat) (hm : m < zs.length) (h : ¬ zs[m] < x) : ∀ i (hi : i < zs.length), m ≤ i → x ≤ zs[i] := by
  intro i hi h1
  by_cases e : i = m
  · subst e; omega
  · have := List.pairwise_iff_getElem.1 hs m i hm hi (by omega)
    omega
theorem bs_end (zs : List Int) (x : Int) (l : Nat) (h1 : ∀ i (hi : i < zs.length), i < l → zs[i] < x) (h2 : ∀ i (hi : i < zs.length), l ≤ i → x ≤ zs[i]) (hl : l < zs.length) (hs : zs.Pairwise (· < ·)) : (zs[l] == x) = hasB zs x := by
  rw [Bool.eq_iff_iff]
  unfold hasB
  simp only [beq_iff_eq, List.any_eq_true]
  constructor
  · intro h; exact ⟨zs[l], List.getElem_mem hl, h⟩
  · rintro ⟨y, hy, rfl⟩
    obtain ⟨i, hi, rfl⟩ := List.getElem_of_mem hy
    have g2 := h2 l hl (Nat.le_refl _)
    by_cases e : i < l
    · have := h1 i hi e; omega
    · by_cases e2 : i = l
      · subst e2; rfl
      · have := List.pairwise_iff_getElem.1 hs l i hl hi (by omega)
        omega
theorem bs_out (zs : List Int) (x : Int) (l : Nat) (h1 : ∀ i (hi : i < zs.length), i < l → zs[i] < x) (hl : zs.length ≤ l) : false = hasB zs x := by
  symm
  unfold hasB
  rw [List.any_eq_false]
  intro y hy
  obtain ⟨i, hi, rfl⟩ := List.getElem_of_mem hy
  have := h1 i hi (by omega)
  simp; omega

set_option maxHeartbeats 400000 in
theorem sortedHas_some (b off cap : Nat) (zs : List Int) (x : Int) (w : World) (hm : zs.length ≤ 4096) (hs : zs.Pairwise (· < ·)) (hc : ∀ j, j < zs.length → w.cell? ⟨b, off + j, none⟩ = some (.int .i64 (zs.getD j 0))) :
    Calls Tryz.prog 8 #[.slice (some ⟨b, off, none⟩) zs.length cap, .int .i64 x] w fun e w' => e = .returned (.bool (hasB zs x)) ∧ w' = w := by
  go_enter Tryz.func8, Tryz.ntmps8
  go_wp2
  go_loop [5, 6] (fun i j => ∃ l h : Nat, l ≤ h ∧ h ≤ zs.length ∧ i = .int .i64 l ∧ j = .int .i64 h ∧ (∀ i (hi : i < zs.length), i < l → zs[i] < x) ∧ (∀ i (hi : i < zs.length), h ≤ i → x ≤ zs[i])) (fun i j => (intOf j - intOf i).toNat)
  case atStart => exact ⟨0, zs.length, by omega, by omega, rfl, rfl, by intros; omega, by intros; omega⟩
  case round =>
    obtain ⟨l, h, hlh, hh, rfl, rfl, hA, hB⟩ := hrel
    have A : Hid (∀ i (hi : i < zs.length), i < l → zs[i] < x) := hA
    have B : Hid (∀ i (hi : i < zs.length), h ≤ i → x ≤ zs[i]) := hB
    have hS : Hid (zs.Pairwise (· < ·)) := hs
    clear hA hB hs
    by_cases hlt : l < h
    · have hml : l + (h - l) / 2 < zs.length := by omega
      have hcm := hc (l + (h - l) / 2) hml
      go_wp2
      · go_round
        case rel => exact ⟨l + (h - l) / 2 + 1, h, by omega, hh, by go_num, rfl, bs_lo zs x hS.out _ hml ‹_›, B.out⟩
        case measure => simp [intOf]; omega
      · go_round
        case rel => exact ⟨l, l + (h - l) / 2, by omega, by omega, rfl, by go_num, A.out, bs_hi zs x hS.out _ hml (by omega)⟩
        case measure => simp [intOf]; omega
    · go_wp2
      · go_ret
        exact ⟨ret_bool (bs_end zs x l A.out (fun i hi h' => B.out i hi (by omega)) (by omega) hS.out), rfl⟩
      · go_ret
        exact ⟨ret_bool (bs_out zs x l A.out (by omega)), rfl⟩

set_option maxHeartbeats 400000 in
theorem sortedHas_nil (a : Option Addr) (cap : Nat) (x : Int) (w : World) :
    Calls Tryz.prog 8 #[.slice a 0 cap, .int .i64 x] w fun e w' => e = .returned (.bool (hasB [] x)) ∧ w' = w := by
  go_enter Tryz.func8, Tryz.ntmps8
  go_wp2
  refine wp_loop_rounds 1 ?_
  rw [rounds_succ]
  go_wp2
  go_ret
  exact ⟨rfl, rfl⟩

theorem sortedHas_any (a : Option Addr) (cap : Nat) (zs : List Int) (x : Int) (w : World) (h : IntsAt w a zs) (hm : zs.length ≤ 4096) (hs : zs.Pairwise (· < ·)) :
    Calls Tryz.prog 8 #[.slice a zs.length cap, .int .i64 x] w fun e w' => e = .returned (.bool (hasB zs x)) ∧ w' = w := by
  rcases h with rfl | ⟨b, off, rfl, _, hc⟩
  · exact sortedHas_nil a cap x w
  · exact sortedHas_some b off cap zs x w hm hs hc


theorem pl_ne {x y : F3} (h : (x.1 != y.1) = true) : decide (x.1 < y.1) = pairLess x y := by unfold pairLess; rw [if_neg (by simpa using h)]
theorem pl_eq {x y : F3} (h : (x.1 != y.1) = false) : decide (x.2.1 < y.2.1) = pairLess x y := by unfold pairLess; rw [if_pos (by simpa using h)]

set_option maxHeartbeats 400000 in
theorem pairLess_any (x y : F3) (w : World) :
    Calls Tryz.prog 10 #[.agg #[.int .i64 x.1, .int .i64 x.2.1, .int .i64 x.2.2], .agg #[.int .i64 y.1, .int .i64 y.2.1, .int .i64 y.2.2]] w fun e w' => e = .returned (.bool (pairLess x y)) ∧ Below w.heap.size w w' := by
  go_enter Tryz.func10, Tryz.ntmps10
  go_wp2
  · go_ret
    exact ⟨ret_bool (pl_ne ‹_›), ((Below.refl _ _).alloc (Nat.le_refl _) _).alloc (by simp) _⟩
  · go_ret
    exact ⟨ret_bool (pl_eq ‹_›), ((Below.refl _ _).alloc (Nat.le_refl _) _).alloc (by simp) _⟩

/-- A slice of facts ([3]int, or 'fact'): three cells each. -/
def Cells3 (w : World) (b off : Nat) (fs : List F3) : Prop :=
  ∀ j (h : j < fs.length), w.cell? ⟨b, off + j * 3, none⟩ = some (.int .i64 fs[j].1) ∧ w.cell? ⟨b, off + j * 3 + 1, none⟩ = some (.int .i64 fs[j].2.1) ∧ w.cell? ⟨b, off + j * 3 + 2, none⟩ = some (.int .i64 fs[j].2.2)
def FactsAt (w : World) (a : Option Addr) (fs : List F3) : Prop :=
  fs = [] ∨ ∃ b off, a = some ⟨b, off, none⟩ ∧ b < w.heap.size ∧ Cells3 w b off fs

def hasP (fs : List F3) (x : F3) : Bool := fs.any fun y => sameP y x
theorem hasP_succ (fs : List F3) (x : F3) (k : Nat) (hk : k < fs.length) : hasP (fs.take (k + 1)) x = (hasP (fs.take k) x || sameP fs[k] x) := by
  unfold hasP
  rw [List.take_succ_eq_append_getElem hk, List.any_append]
  simp
theorem hasP_true (fs : List F3) (x : F3) (k : Nat) (hk : k < fs.length) (h : sameP fs[k] x = true) : hasP fs x = true := by
  unfold hasP
  rw [List.any_eq_true]
  exact ⟨fs[k], List.getElem_mem hk, h⟩

set_option maxHeartbeats 400000 in
theorem hasPair_some (b off cap : Nat) (fs : List F3) (x : F3) (w : World) (hm : fs.length ≤ 4096) (hb : b < w.heap.size) (hc : Cells3 w b off fs) :
    Calls Tryz.prog 11 #[.slice (some ⟨b, off, none⟩) fs.length cap, .agg #[.int .i64 x.1, .int .i64 x.2.1, .int .i64 x.2.2]] w fun e w' => e = .returned (.bool (hasP fs x)) ∧ Below w.heap.size w w' := by
  go_enter Tryz.func11, Tryz.ntmps11
  go_wp2
  go_loopw [5] (fun i wr => (∃ k : Nat, k ≤ fs.length ∧ i = .int .i64 k ∧ hasP (fs.take k) x = false) ∧ ∃ q, wr = (w.alloc (.cells #[.int .i64 x.1, .int .i64 x.2.1, .int .i64 x.2.2] 25)).drewN q) (fun i _ => fs.length - (intOf i).toNat)
  case atStart => exact ⟨⟨0, Nat.zero_le _, rfl, rfl⟩, 0, rfl⟩
  case round =>
    obtain ⟨⟨k, hk, rfl, hno⟩, q, rfl⟩ := hrel
    have H : Hid (hasP (fs.take k) x = false) := hno
    clear hno
    by_cases hlt : k < fs.length
    · obtain ⟨c0, c1, c2⟩ := hc k hlt
      cases hg : (fs[k].1 == x.1)
      · have hgH : Hid ((fs[k].1 == x.1) = false) := hg
        go_wp2
        go_quiet (fail)
        go_wp2
        go_roundw
        case rel => exact ⟨⟨k + 1, by omega, by go_num, by rw [hasP_succ fs x k hlt, H.out]; simp [sameP, hgH.out]⟩, _, rfl⟩
        case measure => simp [intOf]; omega
      · have hgH : Hid ((fs[k].1 == x.1) = true) := hg
        go_wp2
        go_quiet (fail)
        go_wp2
        · go_ret
          exact ⟨ret_bool (hasP_true fs x k hlt (by unfold sameP; rw [hgH.out]; simpa using ‹(fs[k].2.1 == x.2.1) = true›)).symm, below_drewN (below_drewN ((Below.refl _ _).alloc (Nat.le_refl _) _) _) _⟩
        · go_roundw
          case rel => exact ⟨⟨k + 1, by omega, by go_num, by rw [hasP_succ fs x k hlt, H.out]; unfold sameP; rw [hgH.out, ‹(fs[k].2.1 == x.2.1) = false›]; rfl⟩, _, rfl⟩
          case measure => simp [intOf]; omega
    · go_wp2
      all_goals go_ret
      exact ⟨ret_bool (by have := H.out; rw [List.take_of_length_le (by omega)] at this; exact this.symm), below_drewN ((Below.refl _ _).alloc (Nat.le_refl _) _) _⟩

set_option maxHeartbeats 400000 in
theorem hasPair_zero (a : Option Addr) (cap : Nat) (x : F3) (w : World) :
    Calls Tryz.prog 11 #[.slice a 0 cap, .agg #[.int .i64 x.1, .int .i64 x.2.1, .int .i64 x.2.2]] w fun e w' => e = .returned (.bool (hasP [] x)) ∧ Below w.heap.size w w' := by
  go_enter Tryz.func11, Tryz.ntmps11
  go_wp2
  refine wp_loop_rounds 1 ?_
  rw [rounds_succ]
  go_wp2
  go_ret
  exact ⟨rfl, (Below.refl _ _).alloc (Nat.le_refl _) _⟩
theorem hasPair_any (a : Option Addr) (cap : Nat) (fs : List F3) (x : F3) (w : World) (h : FactsAt w a fs) (hm : fs.length ≤ 4096) :
    Calls Tryz.prog 11 #[.slice a fs.length cap, .agg #[.int .i64 x.1, .int .i64 x.2.1, .int .i64 x.2.2]] w fun e w' => e = .returned (.bool (hasP fs x)) ∧ Below w.heap.size w w' := by
  rcases h with rfl | ⟨b, off, rfl, hb, hc⟩
  · exact hasPair_zero a cap x w
  · exact hasPair_some b off cap fs x w hm hb hc
end Go.Proofs.Qxb6614728aGreatDoor
