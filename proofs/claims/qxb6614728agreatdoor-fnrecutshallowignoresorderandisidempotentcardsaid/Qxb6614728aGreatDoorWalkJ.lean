import Derived.Test.Qxb6614728aGreatDoorWalkI
namespace Go.Proofs.Qxb6614728aGreatDoor
open Go.RowKit Go.Sort

theorem run_neq_nil (t e : TypeId) (h : Tryz.prog.underlying t = some (.slice e)) (w : World) (a : Option Addr) (n c n' c' : Nat) : (binOp .neq t (.slice a n c) (.slice none n' c')).run Tryz.prog w = .ok (.bool a.isSome) w := by
  simp only [binOp]
  simp [Op.equal, Op.maxDepth, Lib.run_equalIn_slice_nil w 9999 t e a n c n' c' h]
theorem Tryz.neqFacts (w : World) (a : Option Addr) (n c n' c' : Nat) : (binOp .neq 23 (.slice a n c) (.slice none n' c')).run Tryz.prog w = .ok (.bool a.isSome) w := run_neq_nil 23 _ Tryz.underlying23 w a n c n' c'
theorem Tryz.neqFact (w : World) (a : Option Addr) (n c n' c' : Nat) : (binOp .neq 35 (.slice a n c) (.slice none n' c')).run Tryz.prog w = .ok (.bool a.isSome) w := run_neq_nil 35 _ Tryz.underlying35 w a n c n' c'
theorem Tryz.neqInts (w : World) (a : Option Addr) (n c n' c' : Nat) : (binOp .neq 22 (.slice a n c) (.slice none n' c')).run Tryz.prog w = .ok (.bool a.isSome) w := run_neq_nil 22 _ Tryz.underlying22 w a n c n' c'

theorem Gr.below {w w' : World} {B b : Nat} {d : Int} {t : Value} {q : Bool} {f p : Value} (h : Gr w b d t q f p) (hb : Below B w w') (hlt : b < B) : Gr w' b d t q f p := (hb.block b hlt).trans h
theorem own_below {w w' : World} {B0 B e sz n : Nat} {v : Value} {xs : List Value} (h : w.ownsRow B e sz v n xs) (hb : Below B0 w w') (hlt : ∀ x, v.ownBlock = some x → x < B0) : w'.ownsRow B e sz v n xs := by
  refine ⟨h.1, ?_⟩
  rcases h.2 with h0 | ⟨g, cap, cur, rfl, hbb, hg, r⟩
  · exact .inl h0
  · exact .inr ⟨g, cap, cur, rfl, hbb, (hb.block g (hlt g rfl)).trans hg, r⟩
theorem gb_below_trans {a b c : World} {r : Option Nat} {B : Nat} (h : a.grownBy b r) (k : Below B b c) (hB : a.heap.size ≤ B) : a.grownBy c r :=
  ⟨k.os.trans h.os, k.tape.trans h.tape, k.output.trans h.output, Nat.le_trans h.size k.size, fun i hi hne => (k.block i (by omega)).trans (h.block i hi hne)⟩

theorem grow_draw (w : World) (n : Nat) : w.grownBy (w.drewN n) none := gb_draw (World.grownBy.refl _ _) n

theorem ownI_alloc {w : World} {B : Nat} {v : Value} {zs : List Int} (h : OwnI w B v zs) (o : Obj) : OwnI (w.alloc o) B v zs := World.ownsRow.alloc h o
theorem ownI_draw {w : World} {B : Nat} {v : Value} {zs : List Int} (h : OwnI w B v zs) (n : Nat) : OwnI (w.drewN n) B v zs := h

theorem outT_le (zs : List Int) (h : zs.length ≤ 4096) : (outT zs).length ≤ 4096 := by
  have h1 := Lib.compact_length_le (sortI zs)
  have h2 : (sortI zs).length = zs.length := List.length_mergeSort zs
  unfold outT; omega
theorem outF_le (fs : List F3) (h : fs.length ≤ 4096) : (outF fs).length ≤ 4096 := by
  have h1 := compF_len (sortF fs)
  have h2 : (sortF fs).length = fs.length := List.length_mergeSort fs
  unfold outF; omega

set_option maxHeartbeats 3200000 in
set_option maxRecDepth 100000 in
theorem zzrecut_some (aT aP : Option Addr) (b off cT cF nP cP B : Nat) (gd depth : Int) (gs : Bool) (zs : List Int) (fs : List F3) (w : World) (hz : zs.length ≤ 4096) (hf : fs.length ≤ 4096) (hT : OwnI w B (.slice aT zs.length cT) zs) (hb : b < w.heap.size) (hc : Cells3 w b off fs)
    (hd : ∀ f ∈ fs, f.2.2 < depth) :
    Calls Tryz.prog 7 #[.int .i64 gd, .slice aT zs.length cT, .bool gs, .slice (some ⟨b, off, none⟩) fs.length cF, .slice aP nP cP, .int .i64 depth] w fun e w' =>
      ∃ aT' cT' aF' cF', e = .returned (.tuple #[.int .i64 depth, .slice aT' (outT zs).length cT', .bool false, .slice aF' (outF fs).length cF', .slice none 0 0]) ∧
        OwnI w' B (.slice aT' (outT zs).length cT') (outT zs) ∧ OwnF w' w.heap.size 25 (.slice aF' (outF fs).length cF') (outF fs) ∧ w.grownBy w' (Value.slice aT zs.length cT).ownBlock ∧ (Value.slice aT' (outT zs).length cT').ownBlock = (Value.slice aT zs.length cT).ownBlock := by
  obtain ⟨i0, hi, hz0, hz1, hz2⟩ := info_parts Tryz.info37
  have hne1 := Tryz.neqFacts
  have hne2 := Tryz.neqFact
  have hbt : i0.bytes * fs.length ≤ 281474976710656 := by rw [hz2]; omega
  have hml : fs.length ≤ maxLen := by unfold maxLen; omega
  go_enter Tryz.func7, Tryz.ntmps7
  go_wp2_with (at_make; refine wpList_make_own _ rfl _ _ 35 rfl w.heap.size 37 i0 _ 3 Tryz.underlying35 hi hz0 hz1 _ _ _ fs.length rfl rfl rfl hbt hml (Nat.le_refl _) ?_)
  intro w1 hown hgrow
  go_wp2_with fail
  go_loopw [17, 18] (fun v i wr => ∃ k c : Nat, ∃ av : Option Addr, k ≤ fs.length ∧ v = .slice av k c ∧ i = .int .i64 k ∧ wr.ownsRow w.heap.size 37 3 (.slice av k c) k (flat (fs.take k)) ∧ w.grownBy wr none) (fun _ i _ => fs.length - (intOf i).toNat)
  case atStart => exact ⟨0, fs.length, some ⟨w.heap.size, 0, none⟩, by omega, rfl, rfl, hown, hgrow⟩
  case round =>
    obtain ⟨k, c, av, hk, rfl, rfl, hO, hW⟩ := hrel
    by_cases hlt : k < fs.length
    · obtain ⟨x0, x1, x2⟩ := hc k hlt
      have y0 := hW.cell x0 (by simp)
      have y1 := hW.cell x1 (by simp)
      have y2 := hW.cell x2 (by simp)
      have hws := hW.size
      have l0 : (0 : Int) ≤ (k : Int) := Int.natCast_nonneg _
      have l1 : (k : Int) < (fs.length : Int) := by omega
      have hml1 : k + 1 ≤ maxLen := by unfold maxLen; omega
      have hbt1 : (k + 1) * 24 ≤ 140737488355328 := by omega
      have HO : Hid (wr.ownsRow w.heap.size 37 3 (.slice av k c) k (flat (fs.take k))) := hO
      have HW : Hid (w.grownBy wr none) := hW
      have nb : some b ≠ (Value.slice av k c).ownBlock := fun e => by have := (hO.lt _ e.symm).1; omega
      clear hO hW x0 x1 x2
      go_wp2_with fail
      go_region_held3 (fun w' => w'.cell? ⟨b, off + k * 3, none⟩ = some (.int .i64 fs[k].1) ∧ w'.cell? ⟨b, off + k * 3 + 1, none⟩ = some (.int .i64 fs[k].2.1) ∧ w'.cell? ⟨b, off + k * 3 + 2, none⟩ = some (.int .i64 fs[k].2.2))
        (first
          | go_keep
          | (go_split_ands
             refine ⟨?_, ?_, ?_⟩
             · (rw [hgrow1.cell_far _ (by simp; omega) nb]; assumption)
             · (rw [hgrow1.cell_far _ (by simp; omega) nb]; assumption)
             · (rw [hgrow1.cell_far _ (by simp; omega) nb]; assumption)))
        ((refine step_append_lies _ (by rfl) _ _ _ (by rfl) w.heap.size 37 i0 _ 3 24 Tryz.underlying35 hi hz0 hz1 hz2 (by rfl) (by omega) (.slice av k c) k (flat (fs.take k)) (by rfl) (by exact (HO.out.alloc _).drew)
            ⟨wr.heap.size, 0, none⟩ 1 1 (enc3 fs[k]) (by rfl) (by rfl) (by exact World.news_of_block (cs := #[.int .i64 fs[k].1, .int .i64 fs[k].2.1, .int .i64 fs[k].2.2]) (t := 37) (fr := (0, 0)) (heap_alloc_new wr _)) (by intro u hu; exact flat_one [fs[k]] u (by simpa [flat] using hu))
            (by omega) hml1 hbt1 (by simp; omega) (wr.heap.size + 1) (by simp) ?_; intro g' cap' w2 hown1 hgrow1 hat hlt1))
      have hO2 := hown1
      rw [show flat (fs.take k) ++ enc3 fs[k] = flat (fs.take (k + 1)) by rw [List.take_succ_eq_append_getElem hlt, flat_append]; simp [flat]] at hO2
      have hW2 := gb_trans (gb_draw (gb_alloc HW.out (.cells #[.int .i64 fs[k].1, .int .i64 fs[k].2.1, .int .i64 fs[k].2.2] 37)) 1) hgrow1 (fun j hj hlj => by have := (HO.out.lt _ hj).1; omega)
      have P : Hid (w2.ownsRow w.heap.size 37 3 (.slice (some ⟨g', 0, none⟩) (k + 1) cap') (k + 1) (flat (fs.take (k + 1))) ∧ w.grownBy w2 none) := And.intro hO2 hW2
      clear hown1 hgrow1 hat hlt1 hO2 hW2 y0 y1 y2
      go_wp2
      go_roundw
      case rel => exact ⟨k + 1, cap', some ⟨g', 0, none⟩, by omega, rfl, by go_num, P.out.1, P.out.2⟩
      case measure => simp [intOf]; omega
    · have ek : k = fs.length := by omega
      subst ek
      rw [List.take_of_length_le (Nat.le_refl _)] at hO
      have hT1 := hT.kept hW (by cases (Value.slice aT zs.length cT).ownBlock <;> simp)
      have hTl := fun x e => (World.ownsRow.lt hT x e).2
      have HTL : Hid (∀ x, (Value.slice aT zs.length cT).ownBlock = some x → x < w.heap.size) := hTl
      clear hTl
      have HW : Hid (w.grownBy wr none) := hW
      have hws := hW.size
      clear hW
      go_wp2_with fail
      refine (recut_any _ aT av aP cT c nP cP B w.heap.size gd depth gs zs fs _ hz hf (hT1.kept (World.grownBy_alloc wr _ none) (by cases (Value.slice aT zs.length cT).ownBlock <;> simp)) (by exact hO.alloc _) hd).mono ?_
      clear hT1 hO
      rintro e w3 ⟨aT', cT', aF', cF', rfl, hT3, hF3, hg3, hbT⟩
      have HB : Hid ((Value.slice aT' (outT zs).length cT').ownBlock = (Value.slice aT zs.length cT).ownBlock) := hbT
      have HG3 : Hid (w.grownBy w3 (Value.slice aT zs.length cT).ownBlock) := gb_trans ((gb_alloc HW.out _).but _) hg3 (fun j hj _ => hj)
      have hs3 := hg3.size
      simp only [World.size_alloc] at hs3
      clear hg3 hbT
      have hoT : (outT zs).length ≤ 4096 := outT_le zs hz
      have hoF : (outF fs).length ≤ 4096 := outF_le fs hf
      have hF3' := own_less hF3 (show wr.heap.size ≤ _ by simp)
      clear hF3
      have hSG : Gr (w3.alloc (.cells #[.int .i64 depth, .slice aT' (outT zs).length cT', .bool false, .slice aF' (outF fs).length cF', .slice none 0 0] 63)) w3.heap.size depth (.slice aT' (outT zs).length cT') false (.slice aF' (outF fs).length cF') (.slice none 0 0) := heap_alloc_new w3 _
      have hT4 := hT3.kept (World.grownBy_alloc w3 (.cells #[.int .i64 depth, .slice aT' (outT zs).length cT', .bool false, .slice aF' (outF fs).length cF', .slice none 0 0] 63) none) (by cases (Value.slice aT' (outT zs).length cT').ownBlock <;> simp)
      have hG4 := gb_alloc HG3.out (.cells #[.int .i64 depth, .slice aT' (outT zs).length cT', .bool false, .slice aF' (outF fs).length cF', .slice none 0 0] 63)
      have hF4 := hF3'.alloc (.cells #[.int .i64 depth, .slice aT' (outT zs).length cT', .bool false, .slice aF' (outF fs).length cF', .slice none 0 0] 63)
      obtain ⟨j0, ji, jz0, jz1, jz2⟩ := info_parts Tryz.info25
      rcases hF3'.2 with ⟨h0, hn0⟩ | ⟨g, cap, cur, h0, hgb, hgc, _⟩
      · injection h0 with h0 h00 h000
        subst h0
        subst h000
        have HN : Hid (outF fs = []) := List.eq_nil_of_length_eq_zero h00
        have HT3 : Hid (OwnI w3 B (.slice aT' (outT zs).length cT') (outT zs)) := hT3
        clear hSG hT4 hF4 hG4 hT3 hF3' hn0
        go_wp2_with fail
        refine wp_loop_rounds 1 ?_
        rw [rounds_succ]
        go_wp2_with fail
        go_quiet (fail)
        go_wp2
        refine bodyPost_ret (v := .tuple #[.int .i64 depth, .slice aT' (outT zs).length cT', .bool false, .slice none 0 0, .slice none 0 0]) (by simp [results, Tryz.results7]) rfl ⟨aT', cT', none, 0, by rw [HN.out]; rfl, ownI_draw (ownI_alloc HT3.out _) _, by rw [HN.out]; exact World.ownsRow_nil _ _ _ _, gb_draw (gb_alloc HG3.out _) _, HB.out⟩
      · injection h0 with h0 _ h00
        subst h0
        have hgl : g < w3.heap.size := (Array.getElem?_eq_some_iff.1 hgc).1
        clear hgc h00
        have hbt3 : j0.bytes * (outF fs).length ≤ 281474976710656 := by rw [jz2]; omega
        have hml3 : (outF fs).length ≤ maxLen := by unfold maxLen; omega
        go_wp2_with (at_make; refine wpList_make_own _ rfl _ _ 23 rfl (w3.heap.size + 1) 25 j0 _ 3 Tryz.underlying23 ji jz0 jz1 _ _ _ (outF fs).length rfl rfl rfl hbt3 hml3 (by simp) ?_)
        intro w5 hown5 hgrow5
        have hS5 := hSG.kept hgrow5 (by simp)
        have hT5 := hT4.kept hgrow5 (by cases (Value.slice aT' (outT zs).length cT').ownBlock <;> simp)
        have hF5 := hF4.kept hgrow5 (by cases (Value.slice (some (⟨g, 0, none⟩ : Addr)) (outF fs).length cF').ownBlock <;> simp)
        have hG5 := gb_trans hG4 hgrow5 (by simp)
        have hs5 := hgrow5.size
        simp only [World.size_alloc] at hs5 hown5
        have HP : Hid (Gr w5 w3.heap.size depth (.slice aT' (outT zs).length cT') false (.slice (some ⟨g, 0, none⟩) (outF fs).length cF') (.slice none 0 0) ∧ OwnI w5 B (.slice aT' (outT zs).length cT') (outT zs) ∧ w5.ownsRow wr.heap.size 37 3 (.slice (some ⟨g, 0, none⟩) (outF fs).length cF') (outF fs).length (flat (outF fs)) ∧ w.grownBy w5 (Value.slice aT zs.length cT).ownBlock) := ⟨hS5, hT5, hF5, hG5⟩
        clear hS5 hT5 hF5 hG5 hSG hT4 hF4 hG4 hgrow5
        have HTb : Hid (∀ x, (Value.slice aT' (outT zs).length cT').ownBlock = some x → x < w3.heap.size) := fun x e => (World.ownsRow.lt hT3 x e).2
        clear hT3 hF3'
        obtain ⟨cc0, cc1, cc2, cc3, cc4⟩ := HP.out.1.cells
        go_wp2_with fail
        clear cc0 cc1 cc2 cc3 cc4
        go_loopw [21, 22] (fun v i wx => ∃ k c : Nat, ∃ av : Option Addr, k ≤ (outF fs).length ∧ v = .slice av k c ∧ i = .int .i64 k ∧ wx.ownsRow (w3.heap.size + 1) 25 3 (.slice av k c) k (flat ((outF fs).take k)) ∧ Below (w3.heap.size + 1) w5 wx) (fun _ i _ => (outF fs).length - (intOf i).toNat)
        case atStart => exact ⟨0, (outF fs).length, some ⟨w3.heap.size + 1, 0, none⟩, by omega, rfl, rfl, hown5, Below.refl _ _⟩
        case round =>
          obtain ⟨k, c2, av2, hk2, rfl, rfl, hO2, hW2⟩ := hrel
          have hGx := HP.out.1.below hW2 (by omega)
          have hFx := own_below HP.out.2.2.1 hW2 (fun x e => by injection e with e; simp at e; omega)
          obtain ⟨d0, d1, d2, d3, d4⟩ := hGx.cells
          have hwx := hW2.size
          by_cases hlt2 : k < (outF fs).length
          · obtain ⟨y0, y1, y2⟩ := own_cells hFx k hlt2 rfl
            have l0 : (0 : Int) ≤ (k : Int) := Int.natCast_nonneg _
            have l1 : (k : Int) < ((outF fs).length : Int) := by omega
            have hml1 : k + 1 ≤ maxLen := by unfold maxLen; omega
            have hbt1 : (k + 1) * 24 ≤ 140737488355328 := by omega
            have HO : Hid (wr.ownsRow (w3.heap.size + 1) 25 3 (.slice av2 k c2) k (flat ((outF fs).take k))) := hO2
            have HW2 : Hid (Below (w3.heap.size + 1) w5 wr) := hW2
            have nb : some g ≠ (Value.slice av2 k c2).ownBlock := fun e => by have := (hO2.lt _ e.symm).1; omega
            have nb2 : some w3.heap.size ≠ (Value.slice av2 k c2).ownBlock := fun e => by have := (hO2.lt _ e.symm).1; omega
            clear hO2 hW2 hGx hFx d0 d1 d2 d4
            generalize hX : (outF fs)[k] = X at y0 y1 y2
            have HX : Hid ((outF fs)[k] = X) := hX
            clear hX
            go_wp2_with fail
            go_region_held3 (fun w' => w'.cell? ⟨w3.heap.size, 3, none⟩ = some (.slice (some ⟨g, 0, none⟩) (outF fs).length cF') ∧ w'.cell? ⟨g, k * 3, none⟩ = some (.int .i64 X.1) ∧ w'.cell? ⟨g, k * 3 + 1, none⟩ = some (.int .i64 X.2.1) ∧ w'.cell? ⟨g, k * 3 + 2, none⟩ = some (.int .i64 X.2.2))
              (first
                | go_keep
                | (go_split_ands
                   refine ⟨?_, ?_, ?_, ?_⟩
                   · (rw [hgrow1.cell_far _ (by simp; omega) nb2]; assumption)
                   · (rw [hgrow1.cell_far _ (by simp; omega) nb]; assumption)
                   · (rw [hgrow1.cell_far _ (by simp; omega) nb]; assumption)
                   · (rw [hgrow1.cell_far _ (by simp; omega) nb]; assumption)))
              ((refine step_append_lies _ (by rfl) _ _ _ (by rfl) (w3.heap.size + 1) 25 j0 _ 3 24 Tryz.underlying23 ji jz0 jz1 jz2 (by rfl) (by omega) (.slice av2 k c2) k (flat ((outF fs).take k)) (by rfl) (by exact (HO.out.alloc _).drew)
                  ⟨wr.heap.size, 0, none⟩ 1 1 (enc3 X) (by rfl) (by rfl) (by exact World.news_of_block (cs := #[.int .i64 X.1, .int .i64 X.2.1, .int .i64 X.2.2]) (t := 25) (fr := (0, 0)) (heap_alloc_new wr _)) (by intro u hu; exact flat_one [X] u (by simpa [flat] using hu))
                  (by omega) hml1 hbt1 (by simp; omega) (wr.heap.size + 1) (by simp) ?_; intro g' cap' w6 hown1 hgrow1 hat hlt1))
            rw [show flat ((outF fs).take k) ++ enc3 X = flat ((outF fs).take (k + 1)) by rw [List.take_succ_eq_append_getElem hlt2, flat_append, HX.out]; simp [flat]] at hown1
            have hB6 := ((below_drewN (HW2.out.alloc (by omega) (.cells #[.int .i64 X.1, .int .i64 X.2.1, .int .i64 X.2.2] 25)) 1)).grown hgrow1 (by simp [World.drewN]; omega) (fun j hj => (HO.out.lt _ hj).1)
            have P : Hid (w6.ownsRow (w3.heap.size + 1) 25 3 (.slice (some ⟨g', 0, none⟩) (k + 1) cap') (k + 1) (flat ((outF fs).take (k + 1))) ∧ Below (w3.heap.size + 1) w5 w6) := ⟨hown1, hB6⟩
            clear hown1 hgrow1 hat hlt1 hB6 y0 y1 y2 d3
            go_wp2
            go_roundw
            case rel => exact ⟨k + 1, cap', some ⟨g', 0, none⟩, by omega, rfl, by go_num, P.out.1, P.out.2⟩
            case measure => simp [intOf]; omega
          · have ek : k = (outF fs).length := by omega
            subst ek
            rw [List.take_of_length_le (Nat.le_refl _)] at hO2
            go_wp2_with fail
            go_quiet (fail)
            go_wp2
            refine bodyPost_ret (v := .tuple #[.int .i64 depth, .slice aT' (outT zs).length cT', .bool false, .slice av2 (outF fs).length c2, .slice none 0 0]) (by simp [results, Tryz.results7]) rfl ⟨aT', cT', av2, c2, rfl, own_below HP.out.2.1 (below_drewN hW2 _) (fun x e => by have := HTb.out x e; omega), own_less hO2 (by omega), gb_below_trans HP.out.2.2.2 (below_drewN hW2 _) (by omega), HB.out⟩
end Go.Proofs.Qxb6614728aGreatDoor
