import Derived.Test.Qxb6614728aGreatDoorWalkJ
namespace Go.Proofs.Qxb6614728aGreatDoor
open Go.RowKit Go.Sort

set_option maxHeartbeats 3200000 in
set_option maxRecDepth 100000 in
theorem zzrecut_nil (aT aP : Option Addr) (cT nP cP B : Nat) (gd depth : Int) (gs : Bool) (zs : List Int) (w : World) (hz : zs.length ≤ 4096) (hT : OwnI w B (.slice aT zs.length cT) zs) :
    Calls Tryz.prog 7 #[.int .i64 gd, .slice aT zs.length cT, .bool gs, .slice none 0 0, .slice aP nP cP, .int .i64 depth] w fun e w' =>
      ∃ aT' cT' aF' cF', e = .returned (.tuple #[.int .i64 depth, .slice aT' (outT zs).length cT', .bool false, .slice aF' (outF []).length cF', .slice none 0 0]) ∧
        OwnI w' B (.slice aT' (outT zs).length cT') (outT zs) ∧ OwnF w' w.heap.size 25 (.slice aF' (outF []).length cF') (outF []) ∧ w.grownBy w' (Value.slice aT zs.length cT).ownBlock ∧ (Value.slice aT' (outT zs).length cT').ownBlock = (Value.slice aT zs.length cT).ownBlock := by
  have hne1 := Tryz.neqFacts
  have hne2 := Tryz.neqFact
  have hW := World.grownBy.refl w none
  go_enter Tryz.func7, Tryz.ntmps7
  go_wp2_with fail
  refine wp_loop_rounds 1 ?_
  rw [rounds_succ]
  have hT1 := hT.kept hW (by cases (Value.slice aT zs.length cT).ownBlock <;> simp)
  have hTl := fun x e => (World.ownsRow.lt hT x e).2
  have HTL : Hid (∀ x, (Value.slice aT zs.length cT).ownBlock = some x → x < w.heap.size) := hTl
  clear hTl
  have HW : Hid (w.grownBy w none) := hW
  have hws := Nat.le_refl w.heap.size
  clear hW
  go_wp2_with fail
  refine (recut_any _ aT none aP cT 0 nP cP B w.heap.size gd depth gs zs [] _ hz (by simp) (hT1.kept (World.grownBy_alloc w _ none) (by cases (Value.slice aT zs.length cT).ownBlock <;> simp)) (by exact (World.ownsRow_nil _ _ _ _)) (by simp)).mono ?_
  clear hT1
  rintro e w3 ⟨aT', cT', aF', cF', rfl, hT3, hF3, hg3, hbT⟩
  have HB : Hid ((Value.slice aT' (outT zs).length cT').ownBlock = (Value.slice aT zs.length cT).ownBlock) := hbT
  have HG3 : Hid (w.grownBy w3 (Value.slice aT zs.length cT).ownBlock) := gb_trans ((gb_alloc HW.out _).but _) hg3 (fun j hj _ => hj)
  have hs3 := hg3.size
  simp only [World.size_alloc] at hs3
  clear hg3 hbT
  have hoT : (outT zs).length ≤ 4096 := outT_le zs hz
  have hoF : (outF []).length ≤ 4096 := outF_le [] (by simp)
  have hF3' := own_less hF3 (show w.heap.size ≤ _ by simp)
  clear hF3
  have hSG : Gr (w3.alloc (.cells #[.int .i64 depth, .slice aT' (outT zs).length cT', .bool false, .slice aF' (outF []).length cF', .slice none 0 0] 63)) w3.heap.size depth (.slice aT' (outT zs).length cT') false (.slice aF' (outF []).length cF') (.slice none 0 0) := heap_alloc_new w3 _
  have hT4 := hT3.kept (World.grownBy_alloc w3 (.cells #[.int .i64 depth, .slice aT' (outT zs).length cT', .bool false, .slice aF' (outF []).length cF', .slice none 0 0] 63) none) (by cases (Value.slice aT' (outT zs).length cT').ownBlock <;> simp)
  have hG4 := gb_alloc HG3.out (.cells #[.int .i64 depth, .slice aT' (outT zs).length cT', .bool false, .slice aF' (outF []).length cF', .slice none 0 0] 63)
  have hF4 := hF3'.alloc (.cells #[.int .i64 depth, .slice aT' (outT zs).length cT', .bool false, .slice aF' (outF []).length cF', .slice none 0 0] 63)
  obtain ⟨j0, ji, jz0, jz1, jz2⟩ := info_parts Tryz.info25
  rcases hF3'.2 with ⟨h0, hn0⟩ | ⟨g, cap, cur, h0, hgb, hgc, _⟩
  · injection h0 with h0 h00 h000
    subst h0
    subst h000
    have HN : Hid (outF [] = []) := List.eq_nil_of_length_eq_zero h00
    have HT3 : Hid (OwnI w3 B (.slice aT' (outT zs).length cT') (outT zs)) := hT3
    clear hSG hT4 hF4 hG4 hT3 hF3' hn0
    go_wp2_with fail
    refine wp_loop_rounds 1 ?_
    rw [rounds_succ]
    go_wp2_with fail
    go_quiet (fail)
    go_wp2
    refine bodyPost_ret (v := .tuple #[.int .i64 depth, .slice aT' (outT zs).length cT', .bool false, .slice none 0 0, .slice none 0 0]) (by simp [results, Tryz.results7]) rfl ⟨aT', cT', none, 0, by rw [HN.out]; rfl, ownI_draw (ownI_alloc HT3.out _) _, by rw [HN.out]; exact World.ownsRow_nil _ _ _ _, gb_draw (gb_alloc HG3.out _) _, HB.out⟩
  · injection h0 with h0 _ h00
    subst h0
    have hgl : g < w3.heap.size := (Array.getElem?_eq_some_iff.1 hgc).1
    clear hgc h00
    have hbt3 : j0.bytes * (outF []).length ≤ 281474976710656 := by rw [jz2]; omega
    have hml3 : (outF []).length ≤ maxLen := by unfold maxLen; omega
    go_wp2_with (at_make; refine wpList_make_own _ rfl _ _ 23 rfl (w3.heap.size + 1) 25 j0 _ 3 Tryz.underlying23 ji jz0 jz1 _ _ _ (outF []).length rfl rfl rfl hbt3 hml3 (by simp) ?_)
    intro w5 hown5 hgrow5
    have hS5 := hSG.kept hgrow5 (by simp)
    have hT5 := hT4.kept hgrow5 (by cases (Value.slice aT' (outT zs).length cT').ownBlock <;> simp)
    have hF5 := hF4.kept hgrow5 (by cases (Value.slice (some (⟨g, 0, none⟩ : Addr)) (outF []).length cF').ownBlock <;> simp)
    have hG5 := gb_trans hG4 hgrow5 (by simp)
    have hs5 := hgrow5.size
    simp only [World.size_alloc] at hs5 hown5
    have HP : Hid (Gr w5 w3.heap.size depth (.slice aT' (outT zs).length cT') false (.slice (some ⟨g, 0, none⟩) (outF []).length cF') (.slice none 0 0) ∧ OwnI w5 B (.slice aT' (outT zs).length cT') (outT zs) ∧ w5.ownsRow w.heap.size 37 3 (.slice (some ⟨g, 0, none⟩) (outF []).length cF') (outF []).length (flat (outF [])) ∧ w.grownBy w5 (Value.slice aT zs.length cT).ownBlock) := ⟨hS5, hT5, hF5, hG5⟩
    clear hS5 hT5 hF5 hG5 hSG hT4 hF4 hG4 hgrow5
    have HTb : Hid (∀ x, (Value.slice aT' (outT zs).length cT').ownBlock = some x → x < w3.heap.size) := fun x e => (World.ownsRow.lt hT3 x e).2
    clear hT3 hF3'
    obtain ⟨cc0, cc1, cc2, cc3, cc4⟩ := HP.out.1.cells
    go_wp2_with fail
    clear cc0 cc1 cc2 cc3 cc4
    go_loopw [21, 22] (fun v i wx => ∃ k c : Nat, ∃ av : Option Addr, k ≤ (outF []).length ∧ v = .slice av k c ∧ i = .int .i64 k ∧ wx.ownsRow (w3.heap.size + 1) 25 3 (.slice av k c) k (flat ((outF []).take k)) ∧ Below (w3.heap.size + 1) w5 wx) (fun _ i _ => (outF []).length - (intOf i).toNat)
    case atStart => exact ⟨0, (outF []).length, some ⟨w3.heap.size + 1, 0, none⟩, by omega, rfl, rfl, hown5, Below.refl _ _⟩
    case round =>
      obtain ⟨k, c2, av2, hk2, rfl, rfl, hO2, hW2⟩ := hrel
      have hGx := HP.out.1.below hW2 (by omega)
      have hFx := own_below HP.out.2.2.1 hW2 (fun x e => by injection e with e; simp at e; omega)
      obtain ⟨d0, d1, d2, d3, d4⟩ := hGx.cells
      have hwx := hW2.size
      by_cases hlt2 : k < (outF []).length
      · obtain ⟨y0, y1, y2⟩ := own_cells hFx k hlt2 rfl
        have l0 : (0 : Int) ≤ (k : Int) := Int.natCast_nonneg _
        have l1 : (k : Int) < ((outF []).length : Int) := by omega
        have hml1 : k + 1 ≤ maxLen := by unfold maxLen; omega
        have hbt1 : (k + 1) * 24 ≤ 140737488355328 := by omega
        have HO : Hid (wr.ownsRow (w3.heap.size + 1) 25 3 (.slice av2 k c2) k (flat ((outF []).take k))) := hO2
        have HW2 : Hid (Below (w3.heap.size + 1) w5 wr) := hW2
        have nb : some g ≠ (Value.slice av2 k c2).ownBlock := fun e => by have := (hO2.lt _ e.symm).1; omega
        have nb2 : some w3.heap.size ≠ (Value.slice av2 k c2).ownBlock := fun e => by have := (hO2.lt _ e.symm).1; omega
        clear hO2 hW2 hGx hFx d0 d1 d2 d4
        generalize hX : (outF [])[k] = X at y0 y1 y2
        have HX : Hid ((outF [])[k] = X) := hX
        clear hX
        go_wp2_with fail
        go_region_held3 (fun w' => w'.cell? ⟨w3.heap.size, 3, none⟩ = some (.slice (some ⟨g, 0, none⟩) (outF []).length cF') ∧ w'.cell? ⟨g, k * 3, none⟩ = some (.int .i64 X.1) ∧ w'.cell? ⟨g, k * 3 + 1, none⟩ = some (.int .i64 X.2.1) ∧ w'.cell? ⟨g, k * 3 + 2, none⟩ = some (.int .i64 X.2.2))
          (first
            | go_keep
            | (go_split_ands
               refine ⟨?_, ?_, ?_, ?_⟩
               · (rw [hgrow1.cell_far _ (by simp; omega) nb2]; assumption)
               · (rw [hgrow1.cell_far _ (by simp; omega) nb]; assumption)
               · (rw [hgrow1.cell_far _ (by simp; omega) nb]; assumption)
               · (rw [hgrow1.cell_far _ (by simp; omega) nb]; assumption)))
          ((refine step_append_lies _ (by rfl) _ _ _ (by rfl) (w3.heap.size + 1) 25 j0 _ 3 24 Tryz.underlying23 ji jz0 jz1 jz2 (by rfl) (by omega) (.slice av2 k c2) k (flat ((outF []).take k)) (by rfl) (by exact (HO.out.alloc _).drew)
              ⟨wr.heap.size, 0, none⟩ 1 1 (enc3 X) (by rfl) (by rfl) (by exact World.news_of_block (cs := #[.int .i64 X.1, .int .i64 X.2.1, .int .i64 X.2.2]) (t := 25) (fr := (0, 0)) (heap_alloc_new wr _)) (by intro u hu; exact flat_one [X] u (by simpa [flat] using hu))
              (by omega) hml1 hbt1 (by simp; omega) (wr.heap.size + 1) (by simp) ?_; intro g' cap' w6 hown1 hgrow1 hat hlt1))
        rw [show flat ((outF []).take k) ++ enc3 X = flat ((outF []).take (k + 1)) by rw [List.take_succ_eq_append_getElem hlt2, flat_append, HX.out]; simp [flat]] at hown1
        have hB6 := ((below_drewN (HW2.out.alloc (by omega) (.cells #[.int .i64 X.1, .int .i64 X.2.1, .int .i64 X.2.2] 25)) 1)).grown hgrow1 (by simp [World.drewN]; omega) (fun j hj => (HO.out.lt _ hj).1)
        have P : Hid (w6.ownsRow (w3.heap.size + 1) 25 3 (.slice (some ⟨g', 0, none⟩) (k + 1) cap') (k + 1) (flat ((outF []).take (k + 1))) ∧ Below (w3.heap.size + 1) w5 w6) := ⟨hown1, hB6⟩
        clear hown1 hgrow1 hat hlt1 hB6 y0 y1 y2 d3
        go_wp2
        go_roundw
        case rel => exact ⟨k + 1, cap', some ⟨g', 0, none⟩, by omega, rfl, by go_num, P.out.1, P.out.2⟩
        case measure => simp [intOf]; omega
      · have ek : k = (outF []).length := by omega
        subst ek
        rw [List.take_of_length_le (Nat.le_refl _)] at hO2
        go_wp2_with fail
        go_quiet (fail)
        go_wp2
        refine bodyPost_ret (v := .tuple #[.int .i64 depth, .slice aT' (outT zs).length cT', .bool false, .slice av2 (outF []).length c2, .slice none 0 0]) (by simp [results, Tryz.results7]) rfl ⟨aT', cT', av2, c2, rfl, own_below HP.out.2.1 (below_drewN hW2 _) (fun x e => by have := HTb.out x e; omega), own_less hO2 (by omega), gb_below_trans HP.out.2.2.2 (below_drewN hW2 _) (by omega), HB.out⟩
end Go.Proofs.Qxb6614728aGreatDoor
