import Derived.Test.Qxb6615843aTimeA
import Derived.Shelf.SlSortCmp.QuietGrown
namespace Go.Proofs.Qxb6615843a
open Go.RowKit Go.Sort

/-- Nothing old has turned; draws and new blocks alone. -/
structure Gr (w w' : World) : Prop where
  below : Below w.heap.size w w'
  drawn : w.drawn ≤ w'.drawn

theorem Gr.refl (w : World) : Gr w w := ⟨Below.refl _ _, Nat.le_refl _⟩
theorem Gr.trans {a b c : World} (h : Gr a b) (g : Gr b c) : Gr a c := ⟨h.below.trans (g.below.mono h.below.size), Nat.le_trans h.drawn g.drawn⟩
theorem Gr.alloc {a w : World} (h : Gr a w) (o : Obj) : Gr a (w.alloc o) := ⟨h.below.alloc h.below.size o, h.drawn⟩
theorem Gr.drew {a w : World} (h : Gr a w) : Gr a w.drew := ⟨h.below.drew, Nat.le_succ_of_le h.drawn⟩
theorem Gr.setCell {a w : World} (h : Gr a w) {p : Addr} (hp : a.heap.size ≤ p.block) (u : Value) : Gr a (w.setCell p u) := ⟨h.below.setCell hp u, h.drawn⟩
theorem Gr.cell {w w' : World} (h : Gr w w') {p : Addr} {v : Value} (hc : w.cell? p = some v) : w'.cell? p = some v := (h.below.cell (World.block_lt_of_cell? w _ hc)).trans hc
theorem Gr.grown (w : World) (n : Nat) (os : Array Obj) : Gr w (grow (w.drewN n) os) :=
  ⟨⟨rfl, rfl, rfl, by simp [grow, World.drewN], fun k hk => by show (w.heap ++ os)[k]? = _; rw [Array.getElem?_append_left hk]⟩, Nat.le_add_right _ _⟩

theorem Gr.form {w w' : World} (h : Gr w w') : ∃ q os', w' = grow (w.drewN q) os' := by
  refine ⟨w'.drawn - w.drawn, w'.heap.extract w.heap.size, ?_⟩
  have hh : w'.heap = w.heap ++ w'.heap.extract w.heap.size := by
    apply Array.ext_getElem?
    intro k
    by_cases hk : k < w.heap.size
    · rw [Array.getElem?_append_left hk, h.below.block k hk]
    · have hs := h.below.size
      rw [Array.getElem?_append_right (by omega), Array.getElem?_extract]
      by_cases hk2 : k < w'.heap.size
      · rw [if_pos (by omega)]; congr 1; omega
      · rw [if_neg (by omega)]; exact Array.getElem?_eq_none (by omega)
  have hd := h.drawn
  have := h.below.os
  have := h.below.tape
  have := h.below.output
  cases w'
  simp only [grow, World.drewN] at *
  subst_vars
  congr 1
  omega
end Go.Proofs.Qxb6615843a
