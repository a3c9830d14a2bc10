import Derived.Test.Qxb6614728aGreatDoorWalkH
import Derived.Maps.AppendAt
import Derived.Deep.AppendLies
namespace Go.Proofs.Qxb6614728aGreatDoor
open Go.RowKit Go.Sort

theorem Gr.setAll {w : World} {b : Nat} {d : Int} {t : Value} {q : Bool} {f p : Value} (h : Gr w b d t q f p) (d' : Int) (t' : Value) (q' : Bool) (f' p' : Value) :
    Gr (((((w.setCell ⟨b, 0, none⟩ (.int .i64 d')).setCell ⟨b, 1, none⟩ t').setCell ⟨b, 2, none⟩ (.bool q')).setCell ⟨b, 3, none⟩ f').setCell ⟨b, 4, none⟩ p') b d' t' q' f' p' := by
  unfold Gr at *
  simp [World.setCell, Array.getElem?_modify, h]
theorem gb_setAll (w : World) (b : Nat) (x0 x1 x2 x3 x4 : Value) : w.grownBy (((((w.setCell ⟨b, 0, none⟩ x0).setCell ⟨b, 1, none⟩ x1).setCell ⟨b, 2, none⟩ x2).setCell ⟨b, 3, none⟩ x3).setCell ⟨b, 4, none⟩ x4) (some b) :=
  gb_same (gb_same (gb_same (gb_same (gb_same (World.grownBy.refl _ _) _ _) _ _) _ _) _ _) _ _
theorem own_less {w : World} {B B' e sz n : Nat} {v : Value} {xs : List Value} (h : w.ownsRow B e sz v n xs) (hB : B' ≤ B) : w.ownsRow B' e sz v n xs := by
  refine ⟨h.1, ?_⟩
  rcases h.2 with h0 | ⟨g, cap, cur, hv, hb, r⟩
  · exact .inl h0
  · exact .inr ⟨g, cap, cur, hv, Nat.le_trans hB hb, r⟩

set_option maxHeartbeats 1000000 in
set_option maxRecDepth 100000 in
theorem recut_any (po aT aF aP : Option Addr) (cT cF nP cP B B' : Nat) (gd depth : Int) (gs : Bool) (zs : List Int) (fs : List F3) (w : World) (hz : zs.length ≤ 4096) (hf : fs.length ≤ 4096) (hT : OwnI w B (.slice aT zs.length cT) zs) (hF : OwnF w B' 37 (.slice aF fs.length cF) fs)
    (hd : ∀ f ∈ fs, f.2.2 < depth) :
    Calls Tryz.prog 17 #[.pointer po, .agg #[.int .i64 gd, .slice aT zs.length cT, .bool gs, .slice aF fs.length cF, .slice aP nP cP], .int .i64 depth] w fun e w' =>
      ∃ aT' cT' aF' cF', e = .returned (.agg #[.int .i64 depth, .slice aT' (outT zs).length cT', .bool false, .slice aF' (outF fs).length cF', .slice none 0 0]) ∧
        OwnI w' B (.slice aT' (outT zs).length cT') (outT zs) ∧ OwnF w' w.heap.size 37 (.slice aF' (outF fs).length cF') (outF fs) ∧ w.grownBy w' (Value.slice aT zs.length cT).ownBlock ∧ (Value.slice aT' (outT zs).length cT').ownBlock = (Value.slice aT zs.length cT).ownBlock := by
  obtain ⟨i0, hi, hz0, hz1, hz2⟩ := info_parts Tryz.info37
  have hg0 : Gr (((w.alloc (.cells #[.int .i64 gd, .slice aT zs.length cT, .bool gs, .slice aF fs.length cF, .slice aP nP cP] 63)).alloc (.cells #[.int .i64 0, .slice none 0 0, .bool false, .slice none 0 0, .slice none 0 0] 63)).alloc (.cells #[.int .i64 depth, .slice aT zs.length cT, .bool false, .slice none 0 0, .slice none 0 0] 63)) (w.heap.size + 1 + 1) depth (.slice aT zs.length cT) false (.slice none 0 0) (.slice none 0 0) := by
    have := heap_alloc_new ((w.alloc (.cells #[.int .i64 gd, .slice aT zs.length cT, .bool gs, .slice aF fs.length cF, .slice aP nP cP] 63)).alloc (.cells #[.int .i64 0, .slice none 0 0, .bool false, .slice none 0 0, .slice none 0 0] 63)) (.cells #[.int .i64 depth, .slice aT zs.length cT, .bool false, .slice none 0 0, .slice none 0 0] 63)
    simpa [Gr] using this
  have hr0 : Gr (((w.alloc (.cells #[.int .i64 gd, .slice aT zs.length cT, .bool gs, .slice aF fs.length cF, .slice aP nP cP] 63)).alloc (.cells #[.int .i64 0, .slice none 0 0, .bool false, .slice none 0 0, .slice none 0 0] 63)).alloc (.cells #[.int .i64 depth, .slice aT zs.length cT, .bool false, .slice none 0 0, .slice none 0 0] 63)) (w.heap.size + 1) 0 (.slice none 0 0) false (.slice none 0 0) (.slice none 0 0) := by
    refine Gr.kept ?_ (World.grownBy_alloc _ _ none) (by simp)
    have := heap_alloc_new (w.alloc (.cells #[.int .i64 gd, .slice aT zs.length cT, .bool gs, .slice aF fs.length cF, .slice aP nP cP] 63)) (.cells #[.int .i64 0, .slice none 0 0, .bool false, .slice none 0 0, .slice none 0 0] 63)
    simpa [Gr] using this
  have hw0 : w.grownBy (((w.alloc (.cells #[.int .i64 gd, .slice aT zs.length cT, .bool gs, .slice aF fs.length cF, .slice aP nP cP] 63)).alloc (.cells #[.int .i64 0, .slice none 0 0, .bool false, .slice none 0 0, .slice none 0 0] 63)).alloc (.cells #[.int .i64 depth, .slice aT zs.length cT, .bool false, .slice none 0 0, .slice none 0 0] 63)) none := gb_alloc (gb_alloc (gb_alloc (World.grownBy.refl _ _) _) _) _
  have G0 : Hid _ := hg0
  have R0 : Hid _ := hr0
  have W0 : Hid _ := hw0
  clear hg0 hr0 hw0
  go_enter Tryz.func17, Tryz.ntmps17
  go_wp2_with fail
  go_loopw [17] (fun i wr => ∃ k ao c : Nat, ∃ av : Option Addr, k ≤ fs.length ∧ i = .int .i64 k ∧ Gr wr (w.heap.size + 1 + 1) depth (.slice aT zs.length cT) false (.slice av k c) (.slice none 0 0) ∧ Gr wr (w.heap.size + 1) 0 (.slice none 0 0) false (.slice none 0 0) (.slice none 0 0) ∧ wr.ownsRow (w.heap.size + 1 + 1 + 1) 37 3 (.slice av k c) k (flat (fs.take k)) ∧ w.grownBy wr none) (fun i _ => fs.length - (intOf i).toNat)
  case atStart => exact ⟨0, 0, 0, none, by omega, rfl, G0.out, R0.out, World.ownsRow_nil _ _ _ _, W0.out⟩
  case round =>
    obtain ⟨k, _, c, av, hk, rfl, hG, hR, hO, hW⟩ := hrel
    by_cases hlt : k < fs.length
    · obtain ⟨g, rfl, hgl⟩ : ∃ g, aF = some ⟨g, 0, none⟩ ∧ g < w.heap.size := by
        rcases hF.2 with ⟨h0, h1⟩ | ⟨g, cap, cur, h0, _, h1, _⟩
        · omega
        · injection h0 with h0 _ _; exact ⟨g, h0, (Array.getElem?_eq_some_iff.1 h1).1⟩
      obtain ⟨x0, x1, x2⟩ := own_cells hF k hlt rfl
      have y0 := hW.cell x0 (by simp)
      have y1 := hW.cell x1 (by simp)
      have y2 := hW.cell x2 (by simp)
      have hdk := hd fs[k] (List.getElem_mem hlt)
      obtain ⟨c0, c1, c2, c3, c4⟩ := hG.cells
      have cf := hG.free 3
      have hbs := hG.lt
      clear x0 x1 x2
      have hml : k + 1 ≤ maxLen := by unfold maxLen; omega
      have hbt : (k + 1) * 24 ≤ 140737488355328 := by omega
      have hws := hW.size
      have HO : Hid (wr.ownsRow (w.heap.size + 1 + 1 + 1) 37 3 (.slice av k c) k (flat (fs.take k))) := hO
      have HG : Hid (Gr wr (w.heap.size + 1 + 1) depth (.slice aT zs.length cT) false (.slice av k c) (.slice none 0 0)) := hG
      have HR : Hid (Gr wr (w.heap.size + 1) 0 (.slice none 0 0) false (.slice none 0 0) (.slice none 0 0)) := hR
      have HW : Hid (w.grownBy wr none) := hW
      clear hO hG hR hW
      go_wp2_with (at_builtin; refine wpList_append_lies _ (by rfl) _ _ 35 (by rfl) (w.heap.size + 1 + 1 + 1) 37 i0 _ 3 24 Tryz.underlying35 hi hz0 hz1 hz2 (by rfl) (by omega) (.slice av k c) k (flat (fs.take k)) (by rfl) (by exact (HO.out.alloc _).alloc _) ⟨wr.heap.size + 1, 0, none⟩ 1 1 (enc3 fs[k]) (by rfl) (by rfl) (by exact World.news_of_block (cs := #[.int .i64 fs[k].1, .int .i64 fs[k].2.1, .int .i64 fs[k].2.2]) (by simpa using heap_alloc_new (wr.alloc _) _)) (by intro u hu; exact flat_one [fs[k]] u (by simpa [flat] using hu)) (by omega) hml hbt (by simp; omega) (wr.heap.size + 1 + 1) (by simp) ?_)
      intro g' cap' w1 hown1 hgrow1 hat hlt1
      have nG : some (w.heap.size + 1 + 1) ≠ (Value.slice av k c).ownBlock := fun e => by have := (HO.out.lt _ e.symm).1; omega
      have nR : some (w.heap.size + 1) ≠ (Value.slice av k c).ownBlock := fun e => by have := (HO.out.lt _ e.symm).1; omega
      have hG1 := ((HG.out.kept (World.grownBy_alloc _ _ none) (by simp)).kept (World.grownBy_alloc _ _ none) (by simp)).kept hgrow1 nG
      have hR1 := ((HR.out.kept (World.grownBy_alloc _ _ none) (by simp)).kept (World.grownBy_alloc _ _ none) (by simp)).kept hgrow1 nR
      have hW1 := gb_trans (gb_alloc (gb_alloc HW.out _) _) hgrow1 (fun j hj hlj => by have := (HO.out.lt _ hj).1; omega)
      have hG2 := hG1.set3 (.slice (some ⟨g', 0, none⟩) (k + 1) cap')
      have hg' : w.heap.size + 1 + 1 + 1 ≤ g' := by
        rcases hat with h | h
        · exact (HO.out.lt _ h).1
        · omega
      have hg2 := gb_setCell w1 (w.heap.size + 1 + 1) 3 (.slice (some ⟨g', 0, none⟩) (k + 1) cap')
      have hR2 := hR1.kept hg2 (by simp)
      have hW2 := gb_trans hW1 hg2 (fun j hj hlj => by injection hj with hj; omega)
      have hO2 := hown1.kept hg2 (.inr (by simp [Value.ownBlock]; omega))
      rw [show flat (fs.take k) ++ enc3 fs[k] = flat (fs.take (k + 1)) by rw [List.take_succ_eq_append_getElem hlt, flat_append]; simp [flat]] at hO2
      obtain ⟨d0, d1, d2, d3, d4⟩ := hG1.cells
      have df := hG1.free 3
      clear hown1 hgrow1 hat hG1 hR1 hW1 hg2 c0 c1 c2 c3 c4 cf y0 y1 y2
      have P : Hid _ := And.intro hG2 (And.intro hR2 (And.intro hO2 hW2))
      clear hG2 hR2 hO2 hW2
      go_wp2
      go_roundw
      case rel => exact ⟨k + 1, 0, cap', some ⟨g', 0, none⟩, by omega, by go_num, P.out.1, P.out.2.1, P.out.2.2.1, P.out.2.2.2⟩
      case measure => simp [intOf]; omega
    · have ek : k = fs.length := by omega
      subst ek
      rw [List.take_of_length_le (Nat.le_refl _)] at hO
      have hT1 := hT.kept hW (by cases (Value.slice aT zs.length cT).ownBlock <;> simp)
      have n1 : (Value.slice aT zs.length cT).ownBlock ≠ some (w.heap.size + 1 + 1) := fun e => by have := (World.ownsRow.lt hT _ e).2; omega
      have n1' : (Value.slice aT zs.length cT).ownBlock ≠ some (w.heap.size + 1) := fun e => by have := (World.ownsRow.lt hT _ e).2; omega
      have n2 : (Value.slice av fs.length c).ownBlock ≠ some (w.heap.size + 1 + 1) := fun e => by have := (hO.lt _ e).1; omega
      have n2' : (Value.slice av fs.length c).ownBlock ≠ some (w.heap.size + 1) := fun e => by have := (hO.lt _ e).1; omega
      have n3 : (Value.slice av fs.length c).ownBlock = none ∨ (Value.slice av fs.length c).ownBlock ≠ (Value.slice aT zs.length cT).ownBlock := by
        cases h : (Value.slice av fs.length c).ownBlock with
        | none => exact .inl rfl
        | some x => exact .inr (fun e => by have h1 := (hO.lt _ h).1; have h2 := (World.ownsRow.lt hT _ e.symm).2; omega)
      have HR : Hid (Gr wr (w.heap.size + 1) 0 (.slice none 0 0) false (.slice none 0 0) (.slice none 0 0)) := hR
      have HW : Hid (w.grownBy wr none) := hW
      have hcomp := gcompact_any (w.heap.size + 1 + 1) B (w.heap.size + 1 + 1 + 1) depth _ _ _ false zs fs wr hz hf hG hT1 hO n1 n2 n3
      have hlO := fun x e => (hO.lt x e).1
      have HL : Hid (∀ x, (Value.slice av fs.length c).ownBlock = some x → w.heap.size + 1 + 1 + 1 ≤ x) := hlO
      clear hR hW hO hG hT1 n1 n2 n3 hlO
      go_wp2_with fail
      refine hcomp.mono ?_
      rintro e w' ⟨rfl, vT', vF', hG', hT', hF', hK, hbT, hbF⟩
      obtain ⟨aT', cT', rfl⟩ := own_form hT'
      obtain ⟨aF', cF', rfl⟩ := own_form hF'
      obtain ⟨x0, x1, x2, x3, x4⟩ := hG'.cells
      have hR' : Gr w' (w.heap.size + 1) 0 (.slice none 0 0) false (.slice none 0 0) (.slice none 0 0) := (hK.block _ HR.out.lt (by rintro (h | h | h); omega; exact n1' h; exact n2' h)).trans HR.out
      obtain ⟨r0, r1, r2, r3, r4⟩ := hR'.cells
      have f0 := hR'.free 0
      have f1 := hR'.free 1
      have f2 := hR'.free 2
      have f3 := hR'.free 3
      have f4 := hR'.free 4
      go_wp2_with fail
      have hGz := hR'.setAll depth (.slice aT' (outT zs).length cT') false (.slice aF' (outF fs).length cF') (.slice none 0 0)
      have hgz := gb_setAll w' (w.heap.size + 1) (.int .i64 depth) (.slice aT' (outT zs).length cT') (.bool false) (.slice aF' (outF fs).length cF') (.slice none 0 0)
      generalize ((((w'.setCell ⟨w.heap.size + 1, 0, none⟩ (.int .i64 depth)).setCell ⟨w.heap.size + 1, 1, none⟩ (.slice aT' (outT zs).length cT')).setCell ⟨w.heap.size + 1, 2, none⟩ (.bool false)).setCell ⟨w.heap.size + 1, 3, none⟩ (.slice aF' (outF fs).length cF')).setCell ⟨w.heap.size + 1, 4, none⟩ (.slice none 0 0) = wz at hGz hgz ⊢
      obtain ⟨g0, g1, g2, g3, g4⟩ := hGz.cells
      refine bodyPost_ret (v := .agg #[.int .i64 depth, .slice aT' (outT zs).length cT', .bool false, .slice aF' (outF fs).length cF', .slice none 0 0]) (by simp [results, Tryz.results17, go_sem, g0, g1, g2, g3, g4]) rfl ⟨aT', cT', aF', cF', rfl, hT'.kept hgz (by rw [hbT]; exact apart_some n1'), own_less (hF'.kept hgz (by rw [hbF]; exact apart_some n2')) (by omega), ?_, hbT⟩
      refine ⟨(hgz.os.trans hK.os).trans HW.out.os, (hgz.tape.trans hK.tape).trans HW.out.tape, (hgz.output.trans hK.output).trans HW.out.output, Nat.le_trans HW.out.size (Nat.le_trans hK.size hgz.size), fun k hk hne => ?_⟩
      have s1 := HW.out.size
      have s2 := hK.size
      refine (hgz.block k (by omega) (fun e => by injection e with e; omega)).trans ((hK.block k (by omega) ?_).trans (HW.out.block k hk (by simp)))
      rintro (h | h | h)
      · omega
      · exact hne h.symm
      · have := HL.out _ h; omega
end Go.Proofs.Qxb6614728aGreatDoor
