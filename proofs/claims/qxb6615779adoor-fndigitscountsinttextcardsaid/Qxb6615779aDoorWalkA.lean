import Derived.Test.Qxb6615779aDoorRows
import Derived.WalkKit
import Derived.ProofKit
import Derived.Below
import Derived.OwnWalk
namespace Go.Proofs.Qxb6615779aDoor
open Go.RowKit

theorem cell_off {w : World} {B i j : Nat} {v : Value} (h : i ≠ j) : (w.setCell ⟨B, i, none⟩ v).cell? ⟨B, j, none⟩ = w.cell? ⟨B, j, none⟩ := World.cell?_setCell_other _ _ _ _ (by simp)

/-- The zero value's cells. -/
theorem zero45 : (Tryd.prog.info? 45).map (fun i => (i.zero.map fun z => (z.cells.size, z.cells[3]?, z.cells[4]?, z.cells[5]?, z.cells[6]?, (match z with | .agg _ => true | _ => false)))) = some (some (337, some (.int .i64 0), some (.slice none 0 0), some (.slice none 0 0), some (.slice none 0 0), true)) := by kernel_rfl

theorem zeroDec : ∃ Z : Array Value, (∀ w, (zeroValue 45).run Tryd.prog w = .ok (.agg Z) w) ∧ Z.size = 337 ∧ Z[3]? = some (.int .i64 0) ∧ Z[4]? = some (.slice none 0 0) ∧ Z[5]? = some (.slice none 0 0) ∧ Z[6]? = some (.slice none 0 0) := by
  obtain ⟨i, hi, h⟩ := Option.map_eq_some_iff.1 zero45
  obtain ⟨z, hz, h⟩ := Option.map_eq_some_iff.1 h
  simp only [Prod.mk.injEq] at h
  obtain ⟨h1, h3, h4, h5, h6, h7⟩ := h
  refine ⟨z.cells, fun w => ?_, h1, h3, h4, h5, h6⟩
  cases z <;> first | (cases h7; done) | simp [zeroValue, typeInfo, hi, hz, Value.cells]

/-- A Decoder that lies at block 'b': its data, its place. -/
structure Dec (w : World) (b : Nat) (s : Value) (p : Int) : Prop where
  data : w.cell? ⟨b, 2, none⟩ = some s
  pos : w.cell? ⟨b, 3, none⟩ = some (.int .i64 p)
  thaw : w.frozen? ⟨b, 3, none⟩ = false

set_option maxRecDepth 100000 in
set_option maxHeartbeats 1000000 in
theorem newDecoder (a : Option Addr) (n c : Nat) (w : World) :
    Calls Tryd.prog 11 #[.slice a n c] w fun e w' => e = .returned (.pointer (some ⟨w.heap.size, 0, none⟩)) ∧ Below w.heap.size w w' ∧ w.heap.size < w'.heap.size ∧ Dec w' w.heap.size (.slice a n c) 0 := by
  obtain ⟨Z, hz, hs, z3, z4, z5, z6⟩ := zeroDec
  have hlt : ¬ Z.size < 3 := by omega
  go_enter Tryd.func11, Tryd.ntmps11
  go_wp2_with fail
  obtain ⟨w1, hw1⟩ : ∃ w1, w1 = w.alloc (.cells (Z.setIfInBounds 2 (.slice a n c)) 45) := ⟨_, rfl⟩
  have c2 : w1.cell? ⟨w.heap.size, 2, none⟩ = some (.slice a n c) := by rw [hw1]; simp [hs]
  have c3 : w1.cell? ⟨w.heap.size, 3, none⟩ = some (.int .i64 0) := by rw [hw1]; simp [z3]
  have c4 : w1.cell? ⟨w.heap.size, 4, none⟩ = some (.slice none 0 0) := by rw [hw1]; simp [z4]
  have c5 : w1.cell? ⟨w.heap.size, 5, none⟩ = some (.slice none 0 0) := by rw [hw1]; simp [z5]
  have c6 : w1.cell? ⟨w.heap.size, 6, none⟩ = some (.slice none 0 0) := by rw [hw1]; simp [z6]
  have fz : ∀ k, w1.frozen? ⟨w.heap.size, k, none⟩ = false := by intro k; rw [hw1]; simp
  have hB : Below w.heap.size w w1 := by rw [hw1]; exact (Below.refl _ _).alloc (Nat.le_refl _) _
  have hS : w.heap.size < w1.heap.size := by rw [hw1]; simp
  rw [← hw1]
  clear hw1 z3 z4 z5 z6 hs hz hlt
  go_region
  go_wp2
  go_ret
  have b4 := hB.setCell (p := ⟨w.heap.size, 4, none⟩) (Nat.le_refl _) (.slice (some ⟨w.heap.size, 9, none⟩) 0 8)
  have b5 := b4.setCell (p := ⟨w.heap.size, 5, none⟩) (Nat.le_refl _) (.slice (some ⟨w.heap.size, 49, none⟩) 0 256)
  have b6 := b5.setCell (p := ⟨w.heap.size, 6, none⟩) (Nat.le_refl _) (.slice (some ⟨w.heap.size, 305, none⟩) 0 32)
  exact ⟨rfl, b6.drew, by simpa using hS, ⟨by show World.cell? (World.setCell _ _ _) _ = _; rw [cell_off (by decide), cell_off (by decide), cell_off (by decide)]; exact c2, by show World.cell? (World.setCell _ _ _) _ = _; rw [cell_off (by decide), cell_off (by decide), cell_off (by decide)]; exact c3, by simpa using fz 3⟩⟩

theorem Dec.kept {w w' : World} {b : Nat} {s : Value} {p : Int} {row : Option Nat} (h : Dec w b s p) (g : w.grownBy w' row) (hn : some b ≠ row) : Dec w' b s p := by
  have hl : b < w.heap.size := World.block_lt_of_cell? w _ h.data
  have e := g.block b hl hn
  exact ⟨(World.cell?_of_block (w := w) e).trans h.data, (World.cell?_of_block (w := w) e).trans h.pos, (World.frozen?_of_block (w := w) e).trans h.thaw⟩

set_option maxRecDepth 100000 in
set_option maxHeartbeats 1000000 in
/-- ZZnewDecoderAt. -/
theorem newDecoderAt (a : Option Addr) (n c : Nat) (p : Int) (w : World) :
    Calls Tryd.prog 6 #[.slice a n c, .int .i64 p] w fun e w' => e = .returned (.pointer (some ⟨w.heap.size, 0, none⟩)) ∧ Below w.heap.size w w' ∧ w.heap.size < w'.heap.size ∧ Dec w' w.heap.size (.slice a n c) p := by
  have C := newDecoder a n c w
  obtain ⟨B, hBe⟩ : ∃ B, w.heap.size = B := ⟨_, rfl⟩
  rw [hBe] at C ⊢
  clear hBe
  go_enter Tryd.func6, Tryd.ntmps6
  go_wp2_with fail
  refine C.mono ?_
  rintro e w1 ⟨rfl, hB, hS, h2, h3, hf⟩
  have HB : Hid (Below B w w1) := hB
  clear hB C
  go_wp2
  go_ret
  exact ⟨rfl, HB.out.setCell (Nat.le_refl _) _, by simpa using hS, ⟨(cell_off (by decide)).trans h2, World.cell?_setCell_same _ _ _ h3, by simpa using hf⟩⟩

/-- A digit. -/
def isD (z : Int) : Bool := decide (48 ≤ z) && decide (z ≤ 57)

/-- ZZpos. -/
theorem zzpos (b : Nat) (s : Value) (p : Int) (w : World) (h : Dec w b s p) : Calls Tryd.prog 8 #[.pointer (some ⟨b, 0, none⟩)] w fun e w' => e = .returned (.int .i64 p) ∧ w' = w := by
  have h3 := h.pos
  go_enter Tryd.func8, Tryd.ntmps8
  go_wp2
  go_ret
  exact ⟨rfl, rfl⟩

/-- The bytes of a slice. -/
def BytesAt (w : World) (a : Option Addr) (zs : List Int) : Prop := zs = [] ∨ ∃ b, a = some ⟨b, 0, none⟩ ∧ ∀ j (h : j < zs.length), w.cell? ⟨b, j, none⟩ = some (.int .u8 zs[j])

/-- k digits from p on, and no more. -/
def IsRun (zs : List Int) (p k : Nat) : Prop := p + k ≤ zs.length ∧ (∀ i, p ≤ i → i < p + k → isD (zs.getD i 0) = true) ∧ (p + k < zs.length → isD (zs.getD (p + k) 0) = false)
end Go.Proofs.Qxb6615779aDoor
