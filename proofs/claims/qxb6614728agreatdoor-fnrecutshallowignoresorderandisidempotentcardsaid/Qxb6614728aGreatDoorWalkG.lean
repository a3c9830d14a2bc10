import Derived.Test.Qxb6614728aGreatDoorWalkF
import Derived.Test.Qxb6614728aGreatDoorShelf
import Derived.Sort.OwnSortedInts
import Derived.Lib.OwnBridge
namespace Go.Proofs.Qxb6614728aGreatDoor
open Go.RowKit Go.Sort Go.Shelf Go.Lib

/-! ### slices.Sort, slices.Compact at []int, in terms of what a slice owns -/

theorem sort_any (B : Nat) (v : Value) (zs : List Int) (w : World) (hm : zs.length ≤ 4096) (h : OwnI w B v zs) :
    Calls Tryz.prog 22 #[v] w fun e w' => e = .returned (.tuple #[]) ∧ OwnI w' B v (sortI zs) ∧ w.grownBy w' v.ownBlock := by
  have hl2 : (sortI zs).length = zs.length := List.length_mergeSort zs
  rcases h.2 with ⟨rfl, h0⟩ | ⟨g, cap, cur, rfl, hbase, hb, h1, h2, h3, h4⟩
  · have : zs = [] := List.eq_nil_of_length_eq_zero h0
    subst this
    exact (Any.slices_Sort_int_none Tryz.laysSort none 0 w).mono fun e w' ⟨he, hw⟩ => ⟨he, by subst hw; rw [show sortI [] = [] by simp [sortI]]; exact h, by subst hw; exact World.grownBy.refl _ _⟩
  · have hH : Holds (Value.int .i64) w g 0 zs.toArray := holds_of_blockI hb (by rw [Nat.mul_one] at h4; exact h4)
    have hg : g < w.heap.size := (Array.getElem?_eq_some_iff.1 hb).1
    refine (Any.slices_Sort_int Tryz.laysSort g 0 cap zs w hH hg (by omega)).mono fun e w' ⟨he, n, os, hw⟩ => ⟨he, ?_, ?_⟩
    · subst hw
      have := ownsRow_sortedI (n := n) (os := os) (ss := zs) (ts := sortI zs) hl2 hbase hb h1 h2 h3
      unfold OwnI
      rw [hl2]
      exact this
    · subst hw
      exact grownBy_sortedI _

theorem compact_any (B : Nat) (v : Value) (zs : List Int) (w : World) (hm : zs.length ≤ 4096) (h : OwnI w B v zs) :
    Calls Tryz.prog 23 #[v] w fun e w' => ∃ v', e = .returned v' ∧ OwnI w' B v' (Lib.compact zs) ∧ w.grownBy w' v.ownBlock ∧ v'.ownBlock = v.ownBlock := by
  rcases h.2 with ⟨rfl, h0⟩ | ⟨g, cap, cur, rfl, hbase, hb, h1, h2, h3, h4⟩
  · have : zs = [] := List.eq_nil_of_length_eq_zero h0
    subst this
    exact (Any.slices_Compact_int_empty Tryz.laysCompact none 0 w).mono fun e w' ⟨he, hw⟩ => ⟨_, he, by subst hw; exact h, by subst hw; exact World.grownBy.refl _ _, rfl⟩
  · have hH : Holds (Value.int .i64) w g 0 zs.toArray := holds_of_blockI hb (by rw [Nat.mul_one] at h4; exact h4)
    have hle := Lib.compact_length_le zs
    refine (Any.slices_Compact_int Tryz.laysCompact g 0 cap zs w hH (by omega) h1).mono fun e w' ⟨he, q, hw⟩ => ⟨_, he, ?_, ?_, rfl⟩
    · subst hw
      have := Lib.ownsRow_putRow (q := q) (k := (Lib.compact zs).length) (ys := Lib.compact zs ++ List.replicate (zs.length - (Lib.compact zs).length) 0) h (by simp; omega) hle
      rw [List.take_left] at this
      exact this
    · subst hw
      have := grownBy_sortedI (w := w) (g := g) (n := q) (os := #[]) (Lib.compact zs ++ List.replicate (zs.length - (Lib.compact zs).length) 0).toArray
      rw [grow_empty] at this
      exact this

/-! ### slices.SortFunc at []fact -/
theorem flatK_eq (fs : List F3) : flatK enc3 3 fs.toArray = (flat fs).toArray := by
  apply Array.ext
  · simp [flat_len]
  · intro t h1 h2
    have ht : t < fs.length * 3 := by simpa using h1
    have hj : t / 3 < fs.length := by omega
    obtain ⟨a, b, c⟩ := flat_get fs (t / 3) hj
    have e : (flatK enc3 3 fs.toArray)[t] = (enc3 fs[t / 3])[t % 3]! := by
      simp [flatK, hj]
    rw [e]
    have hl : t < (flat fs).length := by rw [flat_len]; exact ht
    have e2 : (flat fs)[t]? = some ((flat fs).toArray[t]'h2) := by
      rw [List.getElem?_eq_getElem hl]; simp
    have m : t % 3 = 0 ∨ t % 3 = 1 ∨ t % 3 = 2 := by omega
    rcases m with m | m | m
    · rw [show t / 3 * 3 = t by omega, e2] at a
      rw [m, Option.some.inj a]; rfl
    · rw [show t / 3 * 3 + 1 = t by omega, e2] at b
      rw [m, Option.some.inj b]; rfl
    · rw [show t / 3 * 3 + 2 = t by omega, e2] at c
      rw [m, Option.some.inj c]; rfl

theorem cmpI_neg (a b : Int) : (cmpI a b < 0 ↔ a < b) ∧ (cmpI a b = 0 ↔ a = b) := by
  unfold cmpI
  by_cases h1 : a < b
  · simp [h1]; omega
  · by_cases h2 : b < a
    · simp [h1, h2]; omega
    · rw [if_neg h1, if_neg h2]; constructor <;> omega
theorem ltOf_cmpF (x y : F3) : ltOf cmpF x y = ltF x y := by
  unfold ltOf ltF cmpF or3
  obtain ⟨a1, a2⟩ := cmpI_neg x.1 y.1
  obtain ⟨b1, b2⟩ := cmpI_neg x.2.1 y.2.1
  obtain ⟨c1, _⟩ := cmpI_neg x.2.2 y.2.2
  rw [decide_eq_decide]
  generalize cmpI x.1 y.1 = p at *
  generalize cmpI x.2.1 y.2.1 = q at *
  generalize cmpI x.2.2 y.2.2 = r at *
  by_cases h1 : p = 0
  · by_cases h2 : q = 0
    · rw [if_pos h1, if_pos h2]; omega
    · rw [if_pos h1, if_neg h2]; omega
  · rw [if_neg h1]; omega
theorem ltF_fun : ltOf cmpF = ltF := funext fun x => funext fun y => ltOf_cmpF x y
theorem swoF : SWO (ltOf cmpF) where
  irrefl x := by rw [ltOf_cmpF]; simp [ltF]
  trans x y z h1 h2 := by rw [ltOf_cmpF] at *; simp only [ltF, decide_eq_true_eq] at *; omega
  ntrans x y z h1 h2 := by rw [ltOf_cmpF] at *; simp only [ltF, decide_eq_false_iff_not] at *; omega
theorem totF (x y : F3) (h1 : ltOf cmpF x y = false) (h2 : ltOf cmpF y x = false) : x = y := by
  rw [ltOf_cmpF] at *
  simp only [ltF, decide_eq_false_iff_not] at *
  obtain ⟨a, b, c⟩ := x
  obtain ⟨a', b', c'⟩ := y
  simp only [Prod.mk.injEq] at *
  omega


theorem Tryz.isAgg37' (w : World) : (isAgg 37).run Tryz.prog w = .ok true w := by kernel_rfl
theorem Tryz.sizeOf37' (w : World) : (Go.sizeOf 37).run Tryz.prog w = .ok 3 w := by kernel_rfl

theorem cmpLays25 (blk off size : Nat) (w : World) : CmpLays Tryz.prog 25 #[] enc3 3 cmpF blk off size w :=
  fun _ _ _ _ x y => closure25 x y _

theorem heap_put {w : World} {g n : Nat} {os : Array Obj} {cur : Array Value} {e : TypeId} {fr : Nat × Nat} (F : Array Value) (hb : w.heap[g]? = some (.cells cur e fr)) :
    (grow (putRow id (Sort.ahead w n) g 0 F) os).heap[g]? = some (.cells (putCells id 0 F cur) e fr) := by
  have hg : g < w.heap.size := (Array.getElem?_eq_some_iff.1 hb).1
  rw [heap_grow_old _ _ (by simpa using hg)]
  simp [putRow, mapBlock, Sort.ahead, Array.getElem?_modify, hb, onCells]
theorem grownBy_put {w : World} {g n : Nat} {os : Array Obj} (F : Array Value) : w.grownBy (grow (putRow id (Sort.ahead w n) g 0 F) os) (some g) := by
  refine ⟨rfl, rfl, rfl, by simp, fun k hk hne => ?_⟩
  rw [heap_grow_old _ _ (by simpa using hk)]
  have : g ≠ k := fun e => hne (by rw [e])
  simp [putRow, mapBlock, Sort.ahead, Array.getElem?_modify, this]
theorem take_put (cur : Array Value) (vs : List Value) (h : vs.length ≤ cur.size) : (putCells id 0 vs.toArray cur).toList.take vs.length = vs := by
  apply List.ext_getElem?
  intro j
  by_cases hj : j < vs.length
  · rw [List.getElem?_take_of_lt hj, Array.getElem?_toList]
    simp [putCells, hj, show j < cur.size by omega]
  · rw [List.getElem?_take_eq_none (by omega), List.getElem?_eq_none (by omega)]

theorem sortFunc_any (B : Nat) (v : Value) (fs : List F3) (w : World) (hm : fs.length ≤ 4096) (h : OwnF w B 37 v fs) :
    Calls Tryz.prog 24 #[v, .func (.func 25) #[] #[]] w fun e w' => e = .returned (.tuple #[]) ∧ OwnF w' B 37 v (sortF fs) ∧ w.grownBy w' v.ownBlock := by
  have hl2 : (sortF fs).length = fs.length := List.length_mergeSort fs
  rcases h.2 with ⟨rfl, h0⟩ | ⟨g, cap, cur, rfl, hbase, hb, h1, h2, h3, h4⟩
  · have : fs = [] := List.eq_nil_of_length_eq_zero h0
    subst this
    exact (AnyF.slices_SortFunc_none Tryz.laysSortF none 0 _ w).mono fun e w' ⟨he, hw⟩ => ⟨he, by subst hw; rw [show sortF [] = [] by simp [sortF]]; exact h, by subst hw; exact World.grownBy.refl _ _⟩
  · have hg : g < w.heap.size := (Array.getElem?_eq_some_iff.1 hb).1
    have hH : HoldsK enc3 3 w g 0 fs.toArray := by
      unfold HoldsK
      rw [flatK_eq]
      intro j hj
      have hj' : j < (flat fs).length := by simpa using hj
      have hj3 : j < fs.length * 3 := by rw [flat_len] at hj'; exact hj'
      rw [Nat.zero_add]
      exact ⟨by rw [h.cellAt j hj3, List.getElem?_eq_getElem hj']; simp [hj'], h.frozenAt j⟩
    have eg : ∀ args w, (callFunc 25 args).run Tryz.prog w = .ok (.enter 25 args) w := enters_of Tryz.func25 (by kernel_rfl) rfl
    have hcon := AnyQ.slices_SortFunc_total Tryz.laysSortF 3 Tryz.isAgg37' Tryz.sizeOf37' enc3 (fun _ => rfl) (fun x v hv => by simp [enc3] at hv; rcases hv with rfl | rfl | rfl <;> rfl) cmpF swoF 25 #[] g 0 cap fs.toArray w eg (cmpLays25 _ _ _ _) hH hg (by simp; omega) totF
    rw [ltF_fun] at hcon
    refine hcon.mono fun e w' ⟨he, n, os, hw⟩ => ⟨he, ?_, ?_⟩
    · subst hw
      have e2 : flatK enc3 3 (sortF fs).toArray = (flat (sortF fs)).toArray := flatK_eq _
      have hfl : (flat (sortF fs)).length = fs.length * 3 := by rw [flat_len, hl2]
      show (sortWorldK enc3 3 w g 0 n (sortF fs).toArray os).ownsRow _ _ _ _ _ _
      unfold sortWorldK putRowK
      rw [e2, hl2]
      refine ⟨hfl, .inr ⟨g, cap, _, rfl, hbase, heap_put _ hb, h1, h2, by simp [putCells, h3], ?_⟩⟩
      rw [← hfl]
      exact take_put cur _ (by rw [hfl, h3]; omega)
    · subst hw
      exact grownBy_put _
end Go.Proofs.Qxb6614728aGreatDoor
