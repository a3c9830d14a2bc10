import Derived.Test.Qxb6615779aFmtRows
import Derived.WalkKit
import Derived.ProofKit
import Derived.Below
import Derived.OwnWalk
import Derived.BigQuiet
import Derived.Lib.AppendStr
import Derived.Lib.UnsafeStr
import Derived.Lib.Hide
import Derived.Deep.RegionLaw
import Derived.Deep.AppendLies
namespace Go.Proofs.Qxb6615779aFmt
open Go.RowKit

/-- Every block below B but b stands. -/
structure Fr (B b : Nat) (w w' : World) : Prop where
  os : w'.os = w.os
  tape : w'.tape = w.tape
  output : w'.output = w.output
  size : w.heap.size ≤ w'.heap.size
  block : ∀ k, k < B → k ≠ b → w'.heap[k]? = w.heap[k]?

theorem Fr.refl (B b : Nat) (w : World) : Fr B b w w := ⟨rfl, rfl, rfl, Nat.le_refl _, fun _ _ _ => rfl⟩
theorem Fr.trans {B b : Nat} {x y z : World} (h : Fr B b x y) (k : Fr B b y z) : Fr B b x z :=
  ⟨k.os.trans h.os, k.tape.trans h.tape, k.output.trans h.output, Nat.le_trans h.size k.size, fun i hi hn => (k.block i hi hn).trans (h.block i hi hn)⟩
theorem Fr.below {B b : Nat} {w w' : World} (h : Below B w w') : Fr B b w w' := ⟨h.os, h.tape, h.output, h.size, fun k hk _ => h.block k hk⟩
theorem Fr.set {B b : Nat} {x w : World} (h : Fr B b x w) (j : Nat) (u : Value) : Fr B b x (w.setCell ⟨b, j, none⟩ u) :=
  ⟨h.os, h.tape, h.output, by simpa using h.size, fun k hk hn => (Below.heap_setCell _ _ _ _ hn).trans (h.block k hk hn)⟩
theorem Fr.alloc {B b : Nat} {x w : World} (h : Fr B b x w) (hB : B ≤ w.heap.size) (o : Obj) : Fr B b x (w.alloc o) :=
  ⟨h.os, h.tape, h.output, by have := h.size; simp; omega, fun k hk hn => (Below.heap_alloc _ _ _ (by omega)).trans (h.block k hk hn)⟩
theorem Fr.grown {B b : Nat} {x w w' : World} {row : Option Nat} (h : Fr B b x w) (hg : w.grownBy w' row) (hB : B ≤ w.heap.size) (hr : ∀ k, row = some k → B ≤ k) : Fr B b x w' :=
  ⟨hg.os.trans h.os, hg.tape.trans h.tape, hg.output.trans h.output, Nat.le_trans h.size hg.size, fun k hk hn => (hg.block k (by omega) (fun e => by have := hr k e.symm; omega)).trans (h.block k hk hn)⟩
theorem Fr.drewN {B b : Nat} {x w : World} (h : Fr B b x w) (n : Nat) : Fr B b x (w.drewN n) := ⟨h.os, h.tape, h.output, h.size, h.block⟩

/-- The Encoder at block b. -/
structure EncS (w : World) (b : Nat) (cp : Bool) (v : Value) (d : Int) (em : Bool) : Prop where
  c0 : w.cell? ⟨b, 0, none⟩ = some (.bool cp)
  c1 : w.cell? ⟨b, 1, none⟩ = some v
  c2 : w.cell? ⟨b, 2, none⟩ = some (.int .i64 d)
  c3 : w.cell? ⟨b, 3, none⟩ = some (.bool em)
  c4 : w.cell? ⟨b, 4, none⟩ = some (.bool false)
  c5 : w.cell? ⟨b, 5, none⟩ = some .nilIface
  fz : ∀ k, w.frozen? ⟨b, k, none⟩ = false

theorem cell_off {w : World} {B i j : Nat} {v : Value} (h : i ≠ j) : (w.setCell ⟨B, i, none⟩ v).cell? ⟨B, j, none⟩ = w.cell? ⟨B, j, none⟩ := World.cell?_setCell_other _ _ _ _ (by simp)
theorem EncS.lt {w : World} {b : Nat} {cp : Bool} {v : Value} {d : Int} {em : Bool} (h : EncS w b cp v d em) : b < w.heap.size := World.block_lt_of_cell? w _ h.c0
theorem EncS.keep {w w' : World} {b : Nat} {cp : Bool} {v : Value} {d : Int} {em : Bool} (h : EncS w b cp v d em) (e : w'.heap[b]? = w.heap[b]?) : EncS w' b cp v d em :=
  have f : ∀ k, w'.cell? ⟨b, k, none⟩ = w.cell? ⟨b, k, none⟩ := fun _ => World.cell?_of_block (w := w) e
  ⟨(f 0).trans h.c0, (f 1).trans h.c1, (f 2).trans h.c2, (f 3).trans h.c3, (f 4).trans h.c4, (f 5).trans h.c5, fun k => (World.frozen?_of_block (w := w) e).trans (h.fz k)⟩
theorem EncS.below {w w' : World} {b B : Nat} {cp : Bool} {v : Value} {d : Int} {em : Bool} (h : EncS w b cp v d em) (hb : Below B w w') (hB : b < B) : EncS w' b cp v d em := h.keep (hb.block b hB)
theorem EncS.alloc {w : World} {b : Nat} {cp : Bool} {v : Value} {d : Int} {em : Bool} (h : EncS w b cp v d em) (o : Obj) : EncS (w.alloc o) b cp v d em := h.keep (Below.heap_alloc _ _ _ h.lt)
theorem EncS.grown {w w' : World} {b : Nat} {cp : Bool} {v : Value} {d : Int} {em : Bool} {row : Option Nat} (h : EncS w b cp v d em) (hg : w.grownBy w' row) (hr : some b ≠ row) : EncS w' b cp v d em := h.keep (hg.block b h.lt hr)
theorem EncS.drewN {w : World} {b : Nat} {cp : Bool} {v : Value} {d : Int} {em : Bool} (h : EncS w b cp v d em) (n : Nat) : EncS (w.drewN n) b cp v d em := ⟨h.c0, h.c1, h.c2, h.c3, h.c4, h.c5, h.fz⟩
theorem EncS.set1 {w : World} {b : Nat} {cp : Bool} {v : Value} {d : Int} {em : Bool} (h : EncS w b cp v d em) (u : Value) : EncS (w.setCell ⟨b, 1, none⟩ u) b cp u d em :=
  ⟨(cell_off (by decide)).trans h.c0, World.cell?_setCell_same _ _ _ h.c1, (cell_off (by decide)).trans h.c2, (cell_off (by decide)).trans h.c3, (cell_off (by decide)).trans h.c4, (cell_off (by decide)).trans h.c5, fun k => by simpa using h.fz k⟩
theorem EncS.set2 {w : World} {b : Nat} {cp : Bool} {v : Value} {d : Int} {em : Bool} (h : EncS w b cp v d em) (u : Int) : EncS (w.setCell ⟨b, 2, none⟩ (.int .i64 u)) b cp v u em :=
  ⟨(cell_off (by decide)).trans h.c0, (cell_off (by decide)).trans h.c1, World.cell?_setCell_same _ _ _ h.c2, (cell_off (by decide)).trans h.c3, (cell_off (by decide)).trans h.c4, (cell_off (by decide)).trans h.c5, fun k => by simpa using h.fz k⟩
theorem EncS.set3 {w : World} {b : Nat} {cp : Bool} {v : Value} {d : Int} {em : Bool} (h : EncS w b cp v d em) (u : Bool) : EncS (w.setCell ⟨b, 3, none⟩ (.bool u)) b cp v d u :=
  ⟨(cell_off (by decide)).trans h.c0, (cell_off (by decide)).trans h.c1, (cell_off (by decide)).trans h.c2, World.cell?_setCell_same _ _ _ h.c3, (cell_off (by decide)).trans h.c4, (cell_off (by decide)).trans h.c5, fun k => by simpa using h.fz k⟩

/-- v owns the bytes l. -/
def OwnB (w : World) (B : Nat) (v : Value) (l : List UInt8) : Prop := w.ownsRow B 5 1 v l.length (Lib.byteCells l)
theorem OwnB.set {w : World} {B : Nat} {v : Value} {l : List UInt8} (h : OwnB w B v l) (a : Addr) (u : Value) (ha : a.block < B) : OwnB (w.setCell a u) B v l := by
  refine ⟨h.1, ?_⟩
  rcases h.2 with h | ⟨g, cap, cur, hv, hB, hg, r⟩
  · exact .inl h
  · exact .inr ⟨g, cap, cur, hv, hB, by rw [Below.heap_setCell _ _ _ _ (by omega)]; exact hg, r⟩
theorem OwnB.shape {w : World} {B : Nat} {v : Value} {l : List UInt8} (h : OwnB w B v l) : ∃ a c, v = .slice a l.length c := by
  rcases h.2 with ⟨hv, hn⟩ | ⟨g, cap, cur, hv, _⟩
  · exact ⟨none, 0, by rw [hv, hn]⟩
  · exact ⟨_, _, hv⟩
theorem OwnB.row {w : World} {B : Nat} {v : Value} {l : List UInt8} (h : OwnB w B v l) : ∀ k, v.ownBlock = some k → B ≤ k := by
  intro k hk
  rcases h.2 with ⟨hv, hn⟩ | ⟨g, cap, cur, hv, hB, _⟩
  · rw [hv] at hk; cases hk
  · rw [hv] at hk; cases hk; exact hB

theorem info5 : (Tryf.prog.info? 5).map (fun i => (i.zero, i.size, i.bytes)) = some (some (.int .u8 0), 1, 1) := by kernel_rfl
theorem info_parts {P : Program} {t : TypeId} {z : Value} {n b : Nat} (h : (P.info? t).map (fun i => (i.zero, i.size, i.bytes)) = some (some z, n, b)) : ∃ i, P.info? t = some i ∧ i.zero = some z ∧ i.size = n ∧ i.bytes = b := by
  obtain ⟨i, h1, h2⟩ := Option.map_eq_some_iff.1 h
  simp only [Prod.mk.injEq] at h2
  exact ⟨i, h1, h2.1, h2.2.1, h2.2.2⟩

/-- What a new line writes. -/
def nl (cp : Bool) : List UInt8 := if cp then [] else [10, 32, 32]

theorem newline_compact (b : Nat) (v : Value) (d : Int) (em : Bool) (w : World) (h : EncS w b true v d em) : Calls Tryf.prog 22 #[.pointer (some ⟨b, 0, none⟩)] w fun e w' => e = .returned (.tuple #[]) ∧ w' = w := by
  have h0 := h.c0
  go_enter Tryf.func22, Tryf.ntmps22
  go_wp2
  (try simp only [Exit.inBlock, Exit.then])
  refine bodyPost_ret (results_none rfl _ _ _) rfl ?_
  exact ⟨rfl, rfl⟩

/-- 'append' at a step of a region that draws, by its run. -/
theorem step_append_run {P : Program} {ops : Array Oper} {o : Oper} {a : Act} {w : World} {K : Act → World → Prop} {Q : Exit → Act → World → Prop} {E : Prop}
    (hg : o.guard = none) (s x : Operand) (t u : TypeId) (hop : o.op = Op.call { callee := Callee.builtin Builtin.append, args := #[s, x], argTypes := #[t, u] })
    (v y : Value) (hs : a.eval s = v) (hx : a.eval x = y) (v' : Value) (w' : World) (hrun : (Builtin.append_ #[t, u] o.type #[v, y]).run P w = .ok v' w') (hK : K (a.put o.dst v') w') :
    if Region.wanted o (yielded ops a.tmps) = true then Oper.wp P o a w K Q else E := by
  have hw : Region.wanted o (yielded ops a.tmps) = true := by simp [Region.wanted, hg]
  rw [if_pos hw]
  unfold Oper.wp
  simp [execOp, hop, resolve, invoke, builtin, hs, hx, hrun, Result.andThen]
  exact hK

/-- A byte appended. -/
theorem own_next {w : World} {B : Nat} {v : Value} {l : List UInt8} {m : List UInt8} (h : w.ownsRow B 5 1 v (l.length + m.length) (Lib.byteCells l ++ Lib.byteCells m)) : OwnB w B v (l ++ m) := by
  unfold OwnB
  rw [List.length_append]
  have e : Lib.byteCells (l ++ m) = Lib.byteCells l ++ Lib.byteCells m := by simp [Lib.byteCells]
  rw [e]
  exact h

set_option maxRecDepth 100000 in
set_option maxHeartbeats 2000000 in
theorem newline_wide (B b : Nat) (v : Value) (l : List UInt8) (em : Bool) (w : World) (h : EncS w b false v 1 em) (ho : OwnB w B v l) (hb : b < B) (hB : B ≤ w.heap.size) (hl : l.length ≤ 1000000000) :
    Calls Tryf.prog 22 #[.pointer (some ⟨b, 0, none⟩)] w fun e w' => e = .returned (.tuple #[]) ∧ ∃ v', EncS w' b false v' 1 em ∧ OwnB w' B v' (l ++ [10, 32, 32]) ∧ Fr B b w w' := by
  obtain ⟨i0, hi, hz0, hz1, hz2⟩ := info_parts info5
  have h0 := h.c0
  have h1 := h.c1
  have HE := Lib.hid h
  have HO := Lib.hid ho
  clear h ho
  obtain ⟨a, c, rfl⟩ := HO.out.shape
  go_enter Tryf.func22, Tryf.ntmps22
  go_wp2_with (at_builtin; refine wpList_append_own _ rfl _ _ 25 rfl B 5 i0 (.int .u8 0) 1 1 Tryf.underlying25 hi hz0 hz1 hz2 rfl (by decide) _ _ _ rfl (HO.out.alloc _) ⟨w.heap.size, 0, none⟩ 1 1 [Value.int .u8 10] rfl rfl (by intro j u' hj; match j, hj with | 0, hj => simp at hj; subst hj; simp [Addr.add]) (by intro u' hu'; simp at hu'; subst hu'; rfl) (by unfold maxLen; omega) (by omega) (by simp; omega) ?_; intro v1 w1 hown1 hgrow1 _; refine Hid.out ?_)
  refine Lib.hid ?_
  have hE1 : EncS w1 b false (.slice a l.length c) 1 em := (HE.out.alloc _).grown hgrow1 (fun e => by have := HO.out.row b e.symm; omega)
  have hF1 : Fr B b w w1 := ((Fr.refl B b w).alloc hB _).grown hgrow1 (by simp; omega) HO.out.row
  have hO1 : OwnB w1 B v1 (l ++ [10]) := own_next hown1
  obtain ⟨l1, hl1⟩ : ∃ l1, l1 = l ++ [10] := ⟨_, rfl⟩
  rw [← hl1] at hO1
  have HL1 := Lib.hid hl1
  clear hl1
  obtain ⟨a1, c1, hv1⟩ := hO1.shape
  subst hv1
  clear hown1 hgrow1
  have k1 := hE1.c1
  have k2 := hE1.c2
  have kf := hE1.fz 1
  obtain ⟨w2, hw2⟩ : ∃ w2, w2 = w1.setCell ⟨b, 1, none⟩ (.slice a1 l1.length c1) := ⟨_, rfl⟩
  have hE2 : EncS w2 b false (.slice a1 l1.length c1) 1 em := by rw [hw2]; exact hE1.set1 _
  have hF2 : Fr B b w w2 := by rw [hw2]; exact hF1.set _ _
  have hO2 : OwnB w2 B (.slice a1 l1.length c1) l1 := by rw [hw2]; exact hO1.set _ _ hb
  have HW2 := Lib.hid hw2
  have HE2 := Lib.hid hE2
  have HF2 := Lib.hid hF2
  have HO2 := Lib.hid hO2
  clear hw2 hE1 hF1 hO1
  go_wp2_with fail
  rw [← HW2.out]
  clear k1 k2 kf
  have k1 := hE2.c1
  have k2 := hE2.c2
  have kf := hE2.fz 1
  obtain ⟨S, hS, hS2, hSc⟩ : ∃ S : ByteArray, S = ((⟨#[32, 32, 32, 32, 32, 32, 32, 32, 32, 32, 32, 32, 32, 32, 32, 32, 32, 32, 32, 32, 32, 32, 32, 32, 32, 32, 32, 32, 32, 32, 32, 32, 32, 32, 32, 32, 32, 32, 32, 32, 32, 32, 32, 32, 32, 32, 32, 32, 32, 32, 32, 32, 32, 32, 32, 32, 32, 32, 32, 32, 32, 32, 32, 32]⟩ : ByteArray).extract 0 2) ∧ S.size = 2 ∧ Lib.strCells S = Lib.byteCells [32, 32] := ⟨_, rfl, by decide +kernel, by kernel_rfl⟩
  have hO2d : w2.drew.ownsRow B 5 1 (.slice a1 l1.length c1) l1.length (Lib.byteCells l1) := hO2
  obtain ⟨v3, w3, hrun, hown3, hgrow3, _⟩ := Lib.run_append_own_string (P := Tryf.prog) w2.drew B 25 9 25 5 i0 Tryf.underlying25 Tryf.underlying9 hi hz0 hz1 hz2 (.slice a1 l1.length c1) l1.length _ hO2d S (by unfold maxLen; have : l1.length = l.length + 1 := (by rw [HL1.out]; simp); omega) (by have : l1.length = l.length + 1 := (by rw [HL1.out]; simp); omega) (Nat.le_trans hB hF2.size)
  rw [hSc, hS2] at hown3
  rw [hS] at hrun
  clear hO2d hS hS2 hSc
  clear hE2 hF2 hO2
  refine wp_loop_rounds 2 ?_
  rw [rounds_succ]
  go_wp2_with fail
  have hO3 : OwnB w3 B v3 (l1 ++ [32, 32]) := own_next (m := [32, 32]) hown3
  obtain ⟨l3, hl3⟩ : ∃ l3, l3 = l1 ++ [32, 32] := ⟨_, rfl⟩
  rw [← hl3] at hO3
  have HL3 := Lib.hid hl3
  obtain ⟨a3, c3, hv3⟩ := hO3.shape
  subst hv3
  have hE3 : EncS w3 b false (.slice a1 l1.length c1) 1 em := (HE2.out.drewN 1).grown hgrow3 (fun e => by have := HO2.out.row b e.symm; omega)
  have hF3 : Fr B b w w3 := (HF2.out.drewN 1).grown hgrow3 (Nat.le_trans hB HF2.out.size) HO2.out.row
  have m1 := hE3.c1
  have mf := hE3.fz 1
  have HE3 := Lib.hid hE3
  have HF3 := Lib.hid hF3
  have HO3 := Lib.hid hO3
  clear hl3 hE3 hF3 hO3 hown3 hgrow3
  have HR := Lib.hid hrun
  clear hrun
  go_region_law (refine step_append_run (by rfl) _ _ 25 9 (by rfl) _ _ (by rfl) (by rfl) (.slice a3 l3.length c3) w3 (by exact HR.out) ?_)
  all_goals
    go_wp2_with fail
    rw [rounds_succ]
    go_wp2_with fail
    go_end0
    exact ⟨rfl, _, HE3.out.set1 _, by rw [show l ++ [10, 32, 32] = l3 by rw [HL3.out, HL1.out]; simp]; exact HO3.out.set _ _ hb, HF3.out.set _ _⟩
end Go.Proofs.Qxb6615779aFmt
