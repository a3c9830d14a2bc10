import Derived.Test.Qxb6614728aGreatDoorRows
import Derived.Test.Qxb6614728aGreatDoorTie
import Derived.Test.Qxb6614728aGreatDoorLawA
import Derived.WalkKit
import Derived.ProofKit
import Derived.OpenShut
import Derived.ChangeVars
import Derived.LaidMore
import Derived.Stop.Joined
import Derived.Deep.Slices
namespace Go.Proofs.Qxb6614728aGreatDoor
open Go.ChangeShapes Go.WideShapes Go.ChangeAt Go.RowKit

theorem own : ownKnob Tryz.prog.godebug = none := by kernel_rfl
theorem laidOut : laidOutB Tryz.prog = true := by kernel_rfl
/-- The listed variable's name, off the given row. -/
abbrev edgeN : String := Rows.fnRecutShallowGivesSortedSetsAndShallowestFactsRow.named.headD ""
theorem gEdge : Tryz.prog.globalNamed edgeN = some 0 := by kernel_rfl
theorem cells3' : Tryz.prog.cellsOf 3 = 1 := by kernel_rfl
theorem cells25' : Tryz.prog.cellsOf 25 = 3 := by kernel_rfl

/-- The door's own heap meets the condition. -/
theorem door_met (os : Os) (args : Array Value) : laidMetH Tryz.prog Rows.fnRecutShallowGivesSortedSetsAndShallowestFactsRow.laid ((World.doorLaid Tryz.prog 400 os).forCall (fun _ _ => 0) ⟨#[], args, []⟩).memory :=
  laidMetH_of_parts3 (fuel := 8) (laidMet_of_run' 8 (by kernel_rfl) (by kernel_rfl)) (by kernel_rfl) (by kernel_rfl)

/-- A slice of ints that came in, up to its length. -/
theorem open_txns {H : Type} {enc : TypeId × Value → H} {W : World} {a : Option Addr} {len cap fuel : Nat} {x : DataW H × List MemPlace}
    (h : DataW.trod enc Tryz.prog W 0 (fun _ => true) true fuel 22 [.slice a len cap] = some x) :
    ∃ zs : List Int, zs.length = len ∧ IntsAt W a zs ∧ ArgP W a len cap zs ∧ len ≤ maxLen := by
  rcases open_ints Tryz.underlying22 Tryz.underlying3 cells3' h with ⟨hcs, _⟩ | ⟨y, l, c, zs, hcs, _, hl, hm, hz, _, hcell, _⟩
  · simp at hcs
    obtain ⟨rfl, rfl, rfl⟩ := hcs
    exact ⟨[], rfl, .inl rfl, ⟨rfl, .inl ⟨rfl, rfl, rfl⟩⟩, by simp⟩
  · simp at hcs
    obtain ⟨rfl, rfl, rfl⟩ := hcs
    simp only [if_true] at hz
    have hlen : (zs.take len).length = len := by simp; omega
    refine ⟨zs.take len, hlen, ?_, ⟨hlen, .inr ⟨y, rfl, fun j v hj => ?_⟩⟩, by omega⟩
    · by_cases h0 : len = 0
      · left; rw [h0]; simp
      · obtain ⟨b, off, rfl, hc⟩ := ints_at hcell (by omega)
        refine .inr ⟨b, off, rfl, ?_, fun j hj => ?_⟩
        · exact World.block_lt_of_cell? W _ (hc 0 (by omega))
        · rw [hlen] at hj
          rw [hc j (by omega)]
          simp [hj]
    · have hj' : j < len := by
        have := (List.getElem?_eq_some_iff.1 hj).1
        simp at this
        omega
      rw [hcell j (by omega), ← hj]
      simp [hj', show j < zs.length by omega]

set_option maxRecDepth 100000 in
/-- A slice of [3]int that came in. -/
theorem open_facts {H : Type} {enc : TypeId × Value → H} {W : World} {a : Option Addr} {len cap fuel : Nat} {x : DataW H × List MemPlace}
    (h : DataW.trod enc Tryz.prog W 0 (fun _ => true) true fuel 23 [.slice a len cap] = some x) :
    ∃ fs : List F3, fs.length = len ∧ ArgF W a len cap fs ∧ len ≤ maxLen := by
  rcases Deep.open_slice Tryz.underlying23 h with ⟨hcs, _⟩ | ⟨y, l, c, m, n, D, Pl, hcs, _, hl, hm, hmm, _, hx⟩
  · simp at hcs
    obtain ⟨rfl, rfl, rfl⟩ := hcs
    exact ⟨[], rfl, ⟨rfl, .inl ⟨rfl, rfl, rfl⟩⟩, by simp⟩
  · simp at hcs
    obtain ⟨rfl, rfl, rfl⟩ := hcs
    simp only [if_true] at hmm
    subst hmm
    rw [cells25'] at hx
    obtain ⟨V, hV⟩ := Deep.choose_lt (α := F3) (n := m) (p := fun i f => W.cell? (y.add (i * 3)) = some (.int .i64 f.1) ∧ W.cell? (y.add (i * 3 + 1)) = some (.int .i64 f.2.1) ∧ W.cell? (y.add (i * 3 + 2)) = some (.int .i64 f.2.2)) (fun i hi => by
      obtain ⟨cs', h1, h2⟩ := hx i hi
      obtain ⟨_, hlen, hcell⟩ := World.cells?_some h1
      obtain ⟨xs, mm, _, _, _, hxl, hel⟩ := DataW.trod_array Tryz.underlying25 h2
      rw [cells3'] at hel
      match cs', hlen with
      | [u0, u1, u2], _ =>
        have e0 := hel 0 (by omega)
        have e1 := hel 1 (by omega)
        have e2 := hel 2 (by omega)
        rw [List.getElem?_eq_getElem (by omega)] at e0 e1 e2
        obtain ⟨n0, f0, _⟩ := DataW.trod_int Tryz.underlying3 e0
        obtain ⟨n1, f1, _⟩ := DataW.trod_int Tryz.underlying3 e1
        obtain ⟨n2, f2, _⟩ := DataW.trod_int Tryz.underlying3 e2
        simp at f0 f1 f2
        have c0 := hcell 0 (by omega)
        have c1 := hcell 1 (by omega)
        have c2 := hcell 2 (by omega)
        rw [Addr.add_add] at c0 c1 c2
        refine ⟨(n0, n1, n2), ?_, ?_, ?_⟩
        · rw [show i * 3 = i * 3 + 0 from rfl, c0]; simp [f0]
        · rw [c1]; simp [f1]
        · rw [c2]; simp [f2])
    refine ⟨(List.range len).map V, by simp, ⟨by simp, .inr ⟨y, rfl, fun j v hj => ?_⟩⟩, by omega⟩
    have hjl : j < (flat ((List.range len).map V)).length := (List.getElem?_eq_some_iff.1 hj).1
    rw [flat_len] at hjl
    simp only [List.length_map, List.length_range] at hjl
    have hi : j / 3 < ((List.range len).map V).length := by simp; omega
    obtain ⟨g0, g1, g2⟩ := flat_get ((List.range len).map V) (j / 3) hi
    obtain ⟨v0, v1, v2⟩ := hV (j / 3) (by simp at hi; omega)
    have eV : ((List.range len).map V)[j / 3] = V (j / 3) := by simp
    rw [eV] at g0 g1 g2
    have m3 : j % 3 = 0 ∨ j % 3 = 1 ∨ j % 3 = 2 := by omega
    rcases m3 with h3 | h3 | h3
    · have ej : j / 3 * 3 = j := by omega
      rw [ej] at g0 v0
      rw [g0] at hj; rw [v0, ← hj]
    · have ej : j / 3 * 3 + 1 = j := by omega
      rw [ej] at g1 v1
      rw [g1] at hj; rw [v1, ← hj]
    · have ej : j / 3 * 3 + 2 = j := by omega
      rw [ej] at g2 v2
      rw [g2] at hj; rw [v2, ← hj]
end Go.Proofs.Qxb6614728aGreatDoor
