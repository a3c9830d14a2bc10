import Derived.Test.Qxb6614728aGreatDoorWalkG
namespace Go.Proofs.Qxb6614728aGreatDoor
open Go.RowKit Go.Sort

/-- Block b is a 'grounds': depth, txns, guessed, facts, path. -/
def Gr (w : World) (b : Nat) (d : Int) (t : Value) (q : Bool) (f p : Value) : Prop := w.heap[b]? = some (.cells #[.int .i64 d, t, .bool q, f, p] 63 (0, 0))

theorem Gr.lt {w : World} {b : Nat} {d : Int} {t : Value} {q : Bool} {f p : Value} (h : Gr w b d t q f p) : b < w.heap.size := (Array.getElem?_eq_some_iff.1 h).1
theorem Gr.cells {w : World} {b : Nat} {d : Int} {t : Value} {q : Bool} {f p : Value} (h : Gr w b d t q f p) :
    w.cell? ⟨b, 0, none⟩ = some (.int .i64 d) ∧ w.cell? ⟨b, 1, none⟩ = some t ∧ w.cell? ⟨b, 2, none⟩ = some (.bool q) ∧ w.cell? ⟨b, 3, none⟩ = some f ∧ w.cell? ⟨b, 4, none⟩ = some p := by
  unfold Gr at h
  simp [World.cell?, h]
theorem Gr.free {w : World} {b : Nat} {d : Int} {t : Value} {q : Bool} {f p : Value} (h : Gr w b d t q f p) (o : Nat) : w.frozen? ⟨b, o, none⟩ = false := by
  unfold Gr at h
  simp [World.frozen?, h]
theorem Gr.kept {w w' : World} {b : Nat} {d : Int} {t : Value} {q : Bool} {f p : Value} {row : Option Nat} (h : Gr w b d t q f p) (hg : w.grownBy w' row) (hne : some b ≠ row) : Gr w' b d t q f p := (hg.block b h.lt hne).trans h
theorem Gr.set1 {w : World} {b : Nat} {d : Int} {t : Value} {q : Bool} {f p : Value} (h : Gr w b d t q f p) (u : Value) : Gr (w.setCell ⟨b, 1, none⟩ u) b d u q f p := by
  unfold Gr at *
  simp [World.setCell, Array.getElem?_modify, h]
theorem Gr.set3 {w : World} {b : Nat} {d : Int} {t : Value} {q : Bool} {f p : Value} (h : Gr w b d t q f p) (u : Value) : Gr (w.setCell ⟨b, 3, none⟩ u) b d t q u p := by
  unfold Gr at *
  simp [World.setCell, Array.getElem?_modify, h]

theorem gb_setCell (w : World) (b o : Nat) (u : Value) : w.grownBy (w.setCell ⟨b, o, none⟩ u) (some b) := gb_same (World.grownBy.refl _ _) o u

theorem OwnI.kept {w w' : World} {B : Nat} {v : Value} {zs : List Int} {row : Option Nat} (h : OwnI w B v zs) (hg : w.grownBy w' row) (hne : v.ownBlock = none ∨ v.ownBlock ≠ row) : OwnI w' B v zs := World.ownsRow.kept h hg hne
theorem OwnF.kept {w w' : World} {B e : Nat} {v : Value} {fs : List F3} {row : Option Nat} (h : OwnF w B e v fs) (hg : w.grownBy w' row) (hne : v.ownBlock = none ∨ v.ownBlock ≠ row) : OwnF w' B e v fs := World.ownsRow.kept h hg hne

/-- What a call may have written: the blocks of S. -/
structure Kp (w w' : World) (S : Nat → Prop) : Prop where
  os : w'.os = w.os
  tape : w'.tape = w.tape
  output : w'.output = w.output
  size : w.heap.size ≤ w'.heap.size
  block : ∀ k, k < w.heap.size → ¬ S k → w'.heap[k]? = w.heap[k]?
theorem Kp.of {w w' : World} {row : Option Nat} (h : w.grownBy w' row) {S : Nat → Prop} (hS : ∀ k, row = some k → S k) : Kp w w' S := ⟨h.os, h.tape, h.output, h.size, fun k hk hn => h.block k hk (fun e => hn (hS k e.symm))⟩
theorem Kp.trans {a b c : World} {S : Nat → Prop} (h : Kp a b S) (k : Kp b c S) : Kp a c S :=
  ⟨k.os.trans h.os, k.tape.trans h.tape, k.output.trans h.output, Nat.le_trans h.size k.size, fun i hi hn => (k.block i (Nat.lt_of_lt_of_le hi h.size) hn).trans (h.block i hi hn)⟩


theorem own_form {w : World} {B e sz n : Nat} {v : Value} {xs : List Value} (h : w.ownsRow B e sz v n xs) : ∃ ao c, v = .slice ao n c := by
  rcases h.2 with ⟨rfl, rfl⟩ | ⟨g, cap, cur, rfl, _⟩
  · exact ⟨_, _, rfl⟩
  · exact ⟨_, _, rfl⟩
theorem compact_form (B : Nat) (v : Value) (zs : List Int) (w : World) (hm : zs.length ≤ 4096) (h : OwnI w B v zs) :
    Calls Tryz.prog 23 #[v] w fun e w' => ∃ ao c, e = .returned (.slice ao (Lib.compact zs).length c) ∧ OwnI w' B (.slice ao (Lib.compact zs).length c) (Lib.compact zs) ∧ w.grownBy w' v.ownBlock ∧ (Value.slice ao (Lib.compact zs).length c).ownBlock = v.ownBlock :=
  (compact_any B v zs w hm h).mono fun e w' ⟨v', he, ho, hg, hb⟩ => by
    obtain ⟨ao, c, rfl⟩ := own_form ho
    exact ⟨ao, c, he, ho, hg, hb⟩
theorem compactFunc_form (B : Nat) (v : Value) (fs : List F3) (w : World) (hm : fs.length ≤ 4096) (h : OwnF w B 37 v fs) :
    Calls Tryz.prog 28 #[v, .func (.func 29) #[] #[]] w fun e w' => ∃ ao c, e = .returned (.slice ao (compF fs).length c) ∧ OwnF w' B 37 (.slice ao (compF fs).length c) (compF fs) ∧ w.grownBy w' v.ownBlock ∧ (Value.slice ao (compF fs).length c).ownBlock = v.ownBlock :=
  (compactFunc_any B v fs w hm h).mono fun e w' ⟨v', he, ho, hg, hb⟩ => by
    obtain ⟨ao, c, rfl⟩ := own_form ho
    exact ⟨ao, c, he, ho, hg, hb⟩

theorem apart_symm {a b : Option Nat} (h : a = none ∨ a ≠ b) : b = none ∨ b ≠ a := by
  cases b with
  | none => exact .inl rfl
  | some x => exact .inr (fun e => by rcases h with h | h; rw [h] at e; cases e; exact h e.symm)
theorem apart_some {a : Option Nat} {b : Nat} (h : a ≠ some b) : a = none ∨ a ≠ some b := .inr h

set_option maxHeartbeats 1000000 in
theorem gcompact_any (b B B' : Nat) (d : Int) (vT vF vP : Value) (q : Bool) (zs : List Int) (fs : List F3) (w : World) (hz : zs.length ≤ 4096) (hf : fs.length ≤ 4096) (hG : Gr w b d vT q vF vP) (hT : OwnI w B vT zs) (hF : OwnF w B' 37 vF fs)
    (n1 : vT.ownBlock ≠ some b) (n2 : vF.ownBlock ≠ some b) (n3 : vF.ownBlock = none ∨ vF.ownBlock ≠ vT.ownBlock) :
    Calls Tryz.prog 19 #[.pointer (some ⟨b, 0, none⟩)] w fun e w' => e = .returned (.tuple #[]) ∧ ∃ vT' vF', Gr w' b d vT' q vF' vP ∧ OwnI w' B vT' (outT zs) ∧ OwnF w' B' 37 vF' (outF fs) ∧ Kp w w' (fun k => k = b ∨ vT.ownBlock = some k ∨ vF.ownBlock = some k) ∧ vT'.ownBlock = vT.ownBlock ∧ vF'.ownBlock = vF.ownBlock := by
  obtain ⟨c0, c1, c2, c3, c4⟩ := hG.cells
  go_enter Tryz.func19, Tryz.ntmps19
  go_wp2_with fail
  refine (sort_any B vT zs _ hz hT).mono ?_
  rintro e w1 ⟨rfl, hT1, hg1⟩
  have hG1 := hG.kept hg1 (fun e => n1 e.symm)
  have hF1 := hF.kept hg1 n3
  obtain ⟨a0, a1, a2, a3, a4⟩ := hG1.cells
  have af := hG1.free 1
  clear c0 c1 c2 c3 c4
  have H1 : Hid (w.grownBy w1 vT.ownBlock) := hg1
  clear hg1
  go_wp2_with fail
  refine (compact_form B vT _ _ (by unfold sortI; rw [List.length_mergeSort]; exact hz) hT1).mono ?_
  rintro e w2 ⟨ao, cc, rfl, hT2, hg2, hb2⟩
  have hG2 := hG1.kept hg2 (fun e => n1 e.symm)
  have hF2 := hF1.kept hg2 n3
  obtain ⟨x0, x1, x2, x3, x4⟩ := hG2.cells
  have xf := hG2.free 1
  clear a0 a1 a2 a3 a4 af
  have H2 : Hid (w1.grownBy w2 vT.ownBlock) := hg2
  generalize hvT : Value.slice ao (Lib.compact (sortI zs)).length cc = vT' at *
  have HB2 : Hid (vT'.ownBlock = vT.ownBlock) := hb2
  clear hg2 hb2
  have hG3 := hG2.set1 vT'
  have hg3 := gb_setCell w2 b 1 vT'
  have hT3 := hT2.kept hg3 (by rw [HB2.out]; exact apart_some n1)
  have hF3 := hF2.kept hg3 (apart_some n2)
  subst hvT
  go_wp2_with fail
  clear x0 x1 x2 x3 x4 xf
  generalize w2.setCell ⟨b, 1, none⟩ (.slice ao (Lib.compact (sortI zs)).length cc) = w3 at hG3 hg3 hT3 hF3 ⊢
  refine (sortFunc_any B' vF fs _ hf hF3).mono ?_
  rintro e w4 ⟨rfl, hF4, hg4⟩
  have n4 : some b ≠ vF.ownBlock := fun e => n2 e.symm
  have hG4 := hG3.kept hg4 n4
  have hT4 := hT3.kept hg4 (by rw [HB2.out]; exact apart_symm n3)
  obtain ⟨y0, y1, y2, y3, y4⟩ := hG4.cells
  have yf := hG4.free 3
  have H3 : Hid (w2.grownBy w3 (some b)) := hg3
  have H4 : Hid (w3.grownBy w4 vF.ownBlock) := hg4
  clear hg3 hg4
  go_wp2_with fail
  refine (compactFunc_form B' vF _ _ (by unfold sortF; rw [List.length_mergeSort]; exact hf) hF4).mono ?_
  rintro e w5 ⟨ao', cc', rfl, hF5, hg5, hb5⟩
  have hG5 := hG4.kept hg5 n4
  have hT5 := hT4.kept hg5 (by rw [HB2.out]; exact apart_symm n3)
  obtain ⟨z0, z1, z2, z3, z4⟩ := hG5.cells
  have zf := hG5.free 3
  clear y0 y1 y2 y3 y4 yf
  have H5 : Hid (w4.grownBy w5 vF.ownBlock) := hg5
  generalize hvF : Value.slice ao' (compF (sortF fs)).length cc' = vF' at *
  have HB5 : Hid (vF'.ownBlock = vF.ownBlock) := hb5
  clear hg5 hb5
  have hG6 := hG5.set3 vF'
  have hg6 := gb_setCell w5 b 3 vF'
  have hF6 := hF5.kept hg6 (by rw [HB5.out]; exact apart_some n2)
  have hT6 := hT5.kept hg6 (by rw [HB2.out]; exact apart_some n1)
  subst hvF
  have H6 : Hid (w5.grownBy (w5.setCell ⟨b, 3, none⟩ (.slice ao' (compF (sortF fs)).length cc')) (some b)) := hg6
  clear hg6
  go_wp2_with fail
  go_end0
  refine ⟨rfl, _, _, hG6, hT6, hF6, ?_, HB2.out, HB5.out⟩
  exact ((((((Kp.of H1.out (fun k e => .inr (.inl e))).trans (Kp.of H2.out (fun k e => .inr (.inl e)))).trans (Kp.of H3.out (fun k e => .inl (by injection e with e; exact e.symm)))).trans (Kp.of H4.out (fun k e => .inr (.inr e)))).trans (Kp.of H5.out (fun k e => .inr (.inr e)))).trans (Kp.of H6.out (fun k e => .inl (by injection e with e; exact e.symm))))
end Go.Proofs.Qxb6614728aGreatDoor
