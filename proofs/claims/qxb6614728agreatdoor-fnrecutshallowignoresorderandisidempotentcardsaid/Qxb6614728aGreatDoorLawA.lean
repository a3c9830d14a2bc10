import Derived.Test.Qxb6614728aGreatDoorWalkL
import Derived.Test.Qxb6614728aGreatDoorPlainD
namespace Go.Proofs.Qxb6614728aGreatDoor
open Go.RowKit Go.Sort

/-- What is told of a slice of facts that came in. -/
def ArgF (w : World) (a : Option Addr) (n c : Nat) (fs : List F3) : Prop :=
  fs.length = n ∧ ((a = none ∧ n = 0 ∧ c = 0) ∨ ∃ x, a = some x ∧ ∀ j v, (flat fs)[j]? = some v → w.cell? (x.add j) = some v)
def ArgP (w : World) (a : Option Addr) (n c : Nat) (ps : List Int) : Prop :=
  ps.length = n ∧ ((a = none ∧ n = 0 ∧ c = 0) ∨ ∃ x, a = some x ∧ ∀ j v, (ps.map (Value.int .i64))[j]? = some v → w.cell? (x.add j) = some v)

set_option maxHeartbeats 1000000 in
set_option maxRecDepth 100000 in
theorem law3_big (g d : Int) (q : Bool) (a1 a2 a3 : Option Addr) (n1 n2 n3 c1 c2 c3 : Nat) (w : World) (h1 : n1 ≤ maxLen) (h2 : n2 ≤ maxLen) (h3 : n3 ≤ maxLen) (hb : ¬ (n1 ≤ 4096 ∧ n2 ≤ 4096 ∧ n3 ≤ 4096)) :
    Calls Tryz.prog 3 #[.int .i64 g, .slice a1 n1 c1, .bool q, .slice a2 n2 c2, .slice a3 n3 c3, .int .i64 d] w fun e w' => e = .returned (.bool true) ∧ w' = w := by
  cases hf : fits n1 n2 n3
  · have hc := bytes5 g d q a1 a2 a3 n1 n2 n3 c1 c2 c3 w h1 h2 h3
    rw [hf] at hc
    clear h1 h2 h3 hb
    go_enter Tryz.func3, Tryz.ntmps3
    go_wp2_with (go_at_call 5; refine hc.mono ?_; rintro e w' ⟨rfl, rfl⟩)
    go_ret
    exact ⟨rfl, rfl⟩
  · have hc := bytes5 g d q a1 a2 a3 n1 n2 n3 c1 c2 c3 w h1 h2 h3
    rw [hf] at hc
    clear h1 h2 h3
    by_cases g1 : n1 ≤ 4096
    · have e1 : decide ((4096 : Int) < n1) = false := by simp; omega
      by_cases g2 : n2 ≤ 4096
      · have e2 : decide ((4096 : Int) < n2) = false := by simp; omega
        have e3 : decide ((4096 : Int) < n3) = true := by simp; omega
        clear hb
        go_enter Tryz.func3, Tryz.ntmps3
        go_wp2_with (go_at_call 5; refine hc.mono ?_; rintro e w' ⟨rfl, rfl⟩)
        go_ret
        exact ⟨rfl, rfl⟩
      · have e2 : decide ((4096 : Int) < n2) = true := by simp; omega
        clear hb
        go_enter Tryz.func3, Tryz.ntmps3
        go_wp2_with (go_at_call 5; refine hc.mono ?_; rintro e w' ⟨rfl, rfl⟩)
        go_ret
        exact ⟨rfl, rfl⟩
    · have e1 : decide ((4096 : Int) < n1) = true := by simp; omega
      clear hb
      go_enter Tryz.func3, Tryz.ntmps3
      go_wp2_with (go_at_call 5; refine hc.mono ?_; rintro e w' ⟨rfl, rfl⟩)
      go_ret
      exact ⟨rfl, rfl⟩

theorem ownF_nil {w : World} {B e : Nat} {fs : List F3} (h : fs.length = 0) : OwnF w B e (.slice none fs.length 0) fs := by
  obtain rfl : fs = [] := List.eq_nil_of_length_eq_zero h
  exact World.ownsRow_nil _ _ _ _

set_option maxHeartbeats 3200000 in
set_option maxRecDepth 100000 in
theorem law3_main (g d : Int) (q : Bool) (a1 a2 a3 : Option Addr) (c1 c2 c3 : Nat) (zs : List Int) (fs : List F3) (ps : List Int) (w : World) (h1 : zs.length ≤ 4096) (h2 : fs.length ≤ 4096) (h3 : ps.length ≤ 4096)
    (hz : IntsAt w a1 zs) (hF : ArgF w a2 fs.length c2 fs) (hP : ArgP w a3 ps.length c3 ps) :
    Calls Tryz.prog 3 #[.int .i64 g, .slice a1 zs.length c1, .bool q, .slice a2 fs.length c2, .slice a3 ps.length c3, .int .i64 d] w fun e w' => e = .returned (.bool true) ∧ Below w.heap.size w w' := by
  have hc := bytes5 g d q a1 a2 a3 zs.length fs.length ps.length c1 c2 c3 w (by unfold maxLen; omega) (by unfold maxLen; omega) (by unfold maxLen; omega)
  rw [show fits zs.length fs.length ps.length = true by simp [fits]; omega] at hc
  have e1 : decide ((4096 : Int) < zs.length) = false := by simp; omega
  have e2 : decide ((4096 : Int) < fs.length) = false := by simp; omega
  have e3 : decide ((4096 : Int) < ps.length) = false := by simp; omega
  have hnf := Tryz.neqFacts
  have hni := Tryz.neqInts
  obtain ⟨i3, ii3, iz3, is3, ib3⟩ := info_parts Tryz.info3
  obtain ⟨i5, ii5, iz5, is5, ib5⟩ := info_parts Tryz.info25
  have hb3 : i3.bytes * ps.length ≤ 281474976710656 := by rw [ib3]; omega
  have hb5 : i5.bytes * fs.length ≤ 281474976710656 := by rw [ib5]; omega
  have hm3 : ps.length ≤ maxLen := by unfold maxLen; omega
  have hm5 : fs.length ≤ maxLen := by unfold maxLen; omega
  go_enter Tryz.func3, Tryz.ntmps3
  go_upto_if 54 with (go_at_call 5; refine hc.mono ?_; rintro e w' ⟨rfl, hw'⟩; have hw2 := hw'.symm; subst hw2)
  go_cut [3] (fun v wx => ∃ a c, v = .slice a fs.length c ∧ OwnF wx w.heap.size 25 (.slice a fs.length c) fs ∧ w.grownBy wx none)
  case first =>
    obtain ⟨_, hF⟩ := hF
    rcases hF with ⟨rfl, hn0, rfl⟩ | ⟨x, rfl, hx⟩
    · go_wp2_with fail
      go_meet
      case rel => exact ⟨none, 0, by rw [hn0], ownF_nil hn0, World.grownBy.refl _ _⟩
    · go_wp2_with (at_make; refine wpList_make_full _ rfl _ _ 23 rfl w.heap.size 25 i5 _ 3 Tryz.underlying23 ii5 iz5 is5 _ _ _ _ fs.length rfl rfl rfl rfl hb5 hm5 (Nat.le_refl _) ?_)
      intro w1 hown hgrow
      obtain ⟨w2, hcp, hown2, hgrow2⟩ := copy_all 23 25 i5 3 Tryz.underlying23 ii5 is5 hown x c2 (flat fs) (by rw [flat_len]) (fun j v hj => hgrow.cell (hx j v hj) (by simp)) (flat_one fs)
      have HR : Hid (OwnF w2 w.heap.size 25 (.slice (some ⟨w.heap.size, 0, none⟩) fs.length fs.length) fs ∧ w.grownBy w2 none) := ⟨hown2, gb_trans hgrow hgrow2 (fun j hj hlt => by injection hj with hj; omega)⟩
      clear hown hgrow hown2 hgrow2 hx
      go_wp2_with fail
      go_meet
      case rel => exact ⟨_, _, rfl, HR.out.1, HR.out.2⟩
  case rest =>
    obtain ⟨a2', c2', rfl, hF', hW'⟩ := hcut
    have HA : Hid (OwnF wc w.heap.size 25 (.slice a2' fs.length c2') fs ∧ w.grownBy wc none) := ⟨hF', hW'⟩
    clear hF' hW' hF
    go_upto_if 63 with fail
    go_cut [4] (fun v wx => ∃ a c, v = .slice a ps.length c ∧ OwnF wx w.heap.size 25 (.slice a2' fs.length c2') fs ∧ w.grownBy wx none)
    case first =>
      obtain ⟨_, hP⟩ := hP
      rcases hP with ⟨rfl, hn0, rfl⟩ | ⟨x, rfl, hx⟩
      · go_wp2_with fail
        go_meet
        case rel => exact ⟨none, 0, by rw [hn0], HA.out.1, HA.out.2⟩
      · go_wp2_with (at_make; refine wpList_make_full _ rfl _ _ 22 rfl wc.heap.size 3 i3 (.int .i64 0) 1 Tryz.underlying22 ii3 iz3 is3 _ _ _ _ ps.length rfl rfl rfl rfl hb3 hm3 (Nat.le_refl _) ?_)
        intro w1 hown hgrow
        obtain ⟨w2, hcp, hown2, hgrow2⟩ := copy_all 22 3 i3 1 Tryz.underlying22 ii3 is3 hown x c3 (ps.map (Value.int .i64)) (by simp) (fun j v hj => hgrow.cell (HA.out.2.cell (hx j v hj) (by simp)) (by simp)) (ints_oneCell _ _)
        have hg3 := gb_trans hgrow hgrow2 (r := none) (fun j hj hlt => by injection hj with hj; omega)
        have HR : Hid (OwnF w2 w.heap.size 25 (.slice a2' fs.length c2') fs ∧ w.grownBy w2 none) := ⟨HA.out.1.kept hg3 (by cases (Value.slice a2' fs.length c2').ownBlock <;> simp), gb_trans HA.out.2 hg3 (by simp)⟩
        clear hown hgrow hown2 hgrow2 hx hg3
        go_wp2_with fail
        go_meet
        case rel => exact ⟨_, _, rfl, HR.out.1, HR.out.2⟩
    case rest =>
      clear HA hP hc
      obtain ⟨a3', c3', rfl, hF', hW'⟩ := hcut
      go_wp2_with fail
      go_loop [15] (fun i => ∃ k : Nat, k ≤ fs.length ∧ i = .int .i64 k ∧ ∀ j (h : j < fs.length), j < k → fs[j].2.2 < d) (fun i => fs.length - (intOf i).toNat)
      case atStart => exact ⟨0, Nat.zero_le _, rfl, fun j _ h => by omega⟩
      case round =>
        obtain ⟨k, hk, rfl, hsh⟩ := hrel
        have HS : Hid (∀ j (h : j < fs.length), j < k → fs[j].2.2 < d) := hsh
        have HA : Hid (OwnF wc w.heap.size 25 (.slice a2' fs.length c2') fs ∧ w.grownBy wc none) := ⟨hF', hW'⟩
        clear hsh
        by_cases hlt : k < fs.length
        · as_aux_lemma =>
            obtain ⟨b, off, rfl, hbl, hcs⟩ : ∃ b off, a2' = some ⟨b, off, none⟩ ∧ b < wc.heap.size ∧ Cells3 wc b off fs := by
              rcases facts_at_of hF' with h | h
              · subst h; simp at hlt
              · exact h
            obtain ⟨x0, x1, x2⟩ := hcs k hlt
            clear hF' hW' hcs
            by_cases hge : fs[k].2.2 < d
            · go_wp2
              go_round
              case rel => exact ⟨k + 1, by omega, by go_num, fun j h hj => by by_cases e : j = k; subst e; exact hge; exact HS.out j h (by omega)⟩
              case measure => simp [intOf]; omega
            · go_wp2
              go_ret
              exact ⟨rfl, gb_below HA.out.2 (Nat.le_refl _) (by simp)⟩
        · as_aux_lemma =>
            clear hF' hW'
            have hd : Hid (∀ f ∈ fs, f.2.2 < d) := fun f hf => by
              obtain ⟨j, hj, rfl⟩ := List.getElem_of_mem hf
              exact HS.out j hj (by omega)
            have ek : k = fs.length := by omega
            clear HS hk hlt
            subst ek
            have hz1 : IntsAt wc a1 zs := by
              rcases hz with h | ⟨b, off, hb, hbl, hcl⟩
              · exact .inl h
              · exact .inr ⟨b, off, hb, Nat.lt_of_lt_of_le hbl HA.out.2.size, fun j hj => HA.out.2.cell (hcl j hj) (by simp)⟩
            go_wp2_with fail
            refine (clone_any a1 c1 zs _ hz1 h1).mono ?_
            rintro e w2 ⟨am, cm, rfl, hM2, hg2⟩
            have hz2 : IntsAt w2 a1 zs := by
              rcases hz1 with h | ⟨b, off, hb, hbl, hcl⟩
              · exact .inl h
              · exact .inr ⟨b, off, hb, Nat.lt_of_lt_of_le hbl hg2.size, fun j hj => hg2.cell (hcl j hj) (by simp)⟩
            have hF2 := HA.out.1.kept hg2 (by cases (Value.slice a2' fs.length c2').ownBlock <;> simp)
            have hW2 := gb_trans HA.out.2 hg2 (by simp)
            clear hz1
            go_wp2_with fail
            refine (clone_any a1 c1 zs _ hz2 h1).mono ?_
            rintro e w3 ⟨ag, cg, rfl, hG3, hg3⟩
            have hM3 := hM2.kept hg3 (by cases (Value.slice am zs.length cm).ownBlock <;> simp)
            have hF3 := hF2.kept hg3 (by cases (Value.slice a2' fs.length c2').ownBlock <;> simp)
            have hW3 := gb_trans hW2 hg3 (by simp)
            go_wp2_with fail
            refine (zzrecut_any ag a2' a3' cg c2' ps.length c3' w2.heap.size w.heap.size g d q zs fs _ h1 h2 hG3 hF3 hd.out).mono ?_
            rintro e w4 ⟨aT, cT, aO, cO, rfl, hT4, hO4, hg4, hbT⟩
            have nM : (Value.slice am zs.length cm).ownBlock = none ∨ (Value.slice am zs.length cm).ownBlock ≠ (Value.slice ag zs.length cg).ownBlock := by
              cases h : (Value.slice am zs.length cm).ownBlock with
              | none => exact .inl rfl
              | some x => exact .inr (fun e => by have e1 := (World.ownsRow.lt hM2 _ h).2; have e2 := (World.ownsRow.lt hG3 _ e.symm).1; omega)
            have nF : (Value.slice a2' fs.length c2').ownBlock = none ∨ (Value.slice a2' fs.length c2').ownBlock ≠ (Value.slice ag zs.length cg).ownBlock := by
              cases h : (Value.slice a2' fs.length c2').ownBlock with
              | none => exact .inl rfl
              | some x => exact .inr (fun e => by have e1 := (World.ownsRow.lt hF2 _ h).2; have e2 := (World.ownsRow.lt hG3 _ e.symm).1; omega)
            have hM4 := hM3.kept hg4 nM
            have hF4 := hF3.kept hg4 nF
            have hW4 : Below w.heap.size w w4 := (gb_below hW3 (Nat.le_refl _) (by simp)).trans (gb_below hg4 hW3.size (fun x e => by have e1 := (World.ownsRow.lt hG3 _ e).1; have := hW2.size; omega))
            have hl1 : (outT zs).length ≤ 4096 := outT_le zs h1
            have hl2 : (outF fs).length ≤ 4096 := outF_le fs h2
            have ST : Hid (OwnI w4 wc.heap.size (.slice am zs.length cm) zs ∧ OwnI w4 w2.heap.size (.slice aT (outT zs).length cT) (outT zs) ∧ OwnF w4 w3.heap.size 25 (.slice aO (outF fs).length cO) (outF fs) ∧ OwnF w4 w.heap.size 25 (.slice a2' fs.length c2') fs ∧ Below w.heap.size w w4) := ⟨hM4, hT4, hO4, hF4, hW4⟩
            clear hM2 hg2 hz2 hF2 hW2 hG3 hg3 hM3 hF3 hW3 hT4 hO4 hg4 hbT nM nF hM4 hF4 hW4 HA hz
            generalize hTd : outT zs = Ts at ST hl1 ⊢
            have HTs : Hid (Ts.Pairwise (· < ·)) := hTd ▸ outT_sorted zs
            have HTm : Hid (∀ x, x ∈ Ts ↔ x ∈ zs) := fun x => hTd ▸ mem_outT zs x
            generalize hOd : outF fs = Os at ST hl2 ⊢
            have HOd : Hid (outF fs = Os) := hOd
            clear hTd hOd
            go_wp2_with fail
            go_loopw [23] (fun i wr => ∃ m : Nat, m ≤ Ts.length ∧ i = .int .i64 ((m : Int) + 1) ∧ Below w4.heap.size w4 wr) (fun i _ => Ts.length - (intOf i).toNat)
            case atStart => exact ⟨0, by omega, rfl, Below.refl _ _⟩
            case round =>
              obtain ⟨m, hm, rfl, hB⟩ := hrel
              by_cases hlt : m + 1 < Ts.length
              · as_aux_lemma =>
                  obtain ⟨b, off, rfl, hbl, hcs⟩ := ints_cells ST.out.2.1 hB (by omega)
                  have x0 := hcs m (by omega)
                  have x1 := hcs (m + 1) hlt
                  have i1 : (m : Int) + 1 < (Ts.length : Int) := by omega
                  have i2 : (0 : Int) ≤ (m : Int) + 1 := by omega
                  have i3 : (m : Int) < (Ts.length : Int) := by omega
                  have wm : IntKind.i64.wrap (m : Int) = m := wrap_small m (by omega)
                  have hcmp : Ts[m] < Ts[m + 1] := List.pairwise_iff_getElem.1 HTs.out m (m + 1) (by omega) hlt (by omega)
                  have HB : Hid (Below w4.heap.size w4 wr) := hB
                  clear hcs hB
                  go_wp2_with fail
                  go_quiet (fail)
                  clear x0 x1
                  go_wp2
                  go_roundw
                  case rel => exact ⟨m + 1, by omega, by go_num, below_drewN HB.out _⟩
                  case measure => simp [intOf]; omega
              · as_aux_lemma =>
                  have hlt' : ¬ (m : Int) + 1 < (Ts.length : Int) := by omega
                  have HB : Hid (Below w4.heap.size w4 wr) := hB
                  clear hB
                  go_wp2_with fail
                  go_loopw [24] (fun i wx => ∃ k : Nat, k ≤ zs.length ∧ i = .int .i64 (k : Int) ∧ Below w4.heap.size w4 wx) (fun i _ => zs.length - (intOf i).toNat)
                  case atStart => exact ⟨0, by omega, rfl, HB.out⟩
                  case round =>
                    obtain ⟨k, hk, rfl, hB⟩ := hrel
                    clear HB
                    by_cases hlt3 : k < zs.length
                    · as_aux_lemma =>
                        obtain ⟨b, off, rfl, hbl, hcs⟩ := ints_cells ST.out.1 hB (by omega)
                        have x0 := hcs k hlt3
                        have hcall := sortedHas_any aT cT Ts zs[k] wr (ints_at_of (ST.out.2.1.later hB)) hl1 HTs.out
                        rw [hasB_of_mem ((HTm.out zs[k]).2 (List.getElem_mem hlt3))] at hcall
                        have HB : Hid (Below w4.heap.size w4 wr) := hB
                        clear hcs hB
                        go_wp2_with fail
                        refine hcall.mono ?_
                        rintro e w' ⟨rfl, rfl⟩
                        clear x0
                        go_wp2
                        go_roundw
                        case rel => exact ⟨k + 1, by omega, by go_num, HB.out⟩
                        case measure => simp [intOf]; omega
                    · as_aux_lemma =>
                        have HB : Hid (Below w4.heap.size w4 wr) := hB
                        clear hB
                        go_wp2_with fail
                        go_loopw [25] (fun i wx => ∃ k : Nat, k ≤ Ts.length ∧ i = .int .i64 (k : Int) ∧ Below w4.heap.size w4 wx) (fun i _ => Ts.length - (intOf i).toNat)
                        case atStart => exact ⟨0, by omega, rfl, HB.out⟩
                        case round =>
                          obtain ⟨k4, hk4, rfl, hB⟩ := hrel
                          clear HB
                          by_cases hlt4 : k4 < Ts.length
                          · as_aux_lemma =>
                              obtain ⟨b, off, rfl, hbl, hcs⟩ := ints_cells ST.out.2.1 hB (by omega)
                              have x0 := hcs k4 hlt4
                              have hcall := has_any am cm zs Ts[k4] wr (ints_at_of (ST.out.1.later hB)) h1
                              rw [hasB_of_mem ((HTm.out Ts[k4]).1 (List.getElem_mem hlt4))] at hcall
                              have HB : Hid (Below w4.heap.size w4 wr) := hB
                              clear hcs hB
                              go_wp2_with fail
                              refine hcall.mono ?_
                              rintro e w' ⟨rfl, rfl⟩
                              clear x0
                              go_wp2
                              go_roundw
                              case rel => exact ⟨k4 + 1, by omega, by go_num, HB.out⟩
                              case measure => simp [intOf]; omega
                          · as_aux_lemma =>
                              have HB : Hid (Below w4.heap.size w4 wr) := hB
                              clear hB
                              go_wp2_with fail
                              go_loopw [26] (fun i wx => ∃ m : Nat, m ≤ Os.length ∧ i = .int .i64 ((m : Int) + 1) ∧ Below w4.heap.size w4 wx) (fun i _ => Os.length - (intOf i).toNat)
                              case atStart => exact ⟨0, by omega, rfl, HB.out⟩
                              case round =>
                                obtain ⟨m5, hm5', rfl, hB⟩ := hrel
                                clear HB
                                by_cases hlt5 : m5 + 1 < Os.length
                                · as_aux_lemma =>
                                    obtain ⟨b, off, rfl, hbl, hcs⟩ := facts_cells ST.out.2.2.1 hB (by omega)
                                    obtain ⟨x0, x1, x2⟩ := hcs m5 (by omega)
                                    obtain ⟨y0, y1, y2⟩ := hcs (m5 + 1) hlt5
                                    have X0 := cell_grown hbl x0
                                    have X1 := cell_grown hbl x1
                                    have X2 := cell_grown hbl x2
                                    have Y0 := cell_grown hbl y0
                                    have Y1 := cell_grown hbl y1
                                    have Y2 := cell_grown hbl y2
                                    have i1 : (m5 : Int) + 1 < (Os.length : Int) := by omega
                                    have i2 : (0 : Int) ≤ (m5 : Int) + 1 := by omega
                                    have i3 : (m5 : Int) < (Os.length : Int) := by omega
                                    have wm5 : IntKind.i64.wrap (m5 : Int) = m5 := wrap_small m5 (by omega)
                                    have HPL : Hid (pairLess Os[m5] Os[m5 + 1] = true) := List.pairwise_iff_getElem.1 (HOd.out ▸ outF_asc fs) m5 (m5 + 1) (by omega) hlt5 (by omega)
                                    have mixed := mixed
                                    have HB : Hid (Below w4.heap.size w4 wr) := hB
                                    clear hcs hB x0 x1 x2 y0 y1 y2
                                    go_wp2_with fail
                                    go_quiet_grown (first | (go_at_call 10; refine Calls.grown_of ((pairLess_grow _ _ _).mono (fun e w' h => ⟨h.1.trans (by rw [HPL.out]), h.2⟩))))
                                    clear X0 X1 X2 Y0 Y1 Y2
                                    go_wp2
                                    go_roundw
                                    case rel => exact ⟨m5 + 1, by omega, by go_num, HB.out.trans ((below_grow _ _).mono HB.out.size)⟩
                                    case measure => simp [intOf]; omega
                                · as_aux_lemma =>
                                    have hlt5' : ¬ (m5 : Int) + 1 < (Os.length : Int) := by omega
                                    have HB : Hid (Below w4.heap.size w4 wr) := hB
                                    clear hB
                                    go_wp2_with fail
                                    go_loopw [27] (fun i wx => ∃ k : Nat, k ≤ Os.length ∧ i = .int .i64 (k : Int) ∧ Below w4.heap.size w4 wx) (fun i _ => Os.length - (intOf i).toNat)
                                    case atStart => exact ⟨0, by omega, rfl, HB.out⟩
                                    case round =>
                                      obtain ⟨j6, hj6, rfl, hB⟩ := hrel
                                      clear HB
                                      by_cases hlt6 : j6 < Os.length
                                      · as_aux_lemma =>
                                          have HB : Hid (Below w4.heap.size w4 wr) := hB
                                          obtain ⟨bO, oO, rfl, hbO, hcO⟩ := facts_cells ST.out.2.2.1 hB (by omega)
                                          clear hB hbO hcO
                                          obtain ⟨X, hX⟩ : ∃ X, X = Os[j6] := ⟨_, rfl⟩
                                          have HX : Hid (X = Os[j6]) := hX
                                          clear hX
                                          go_wp2_with fail
                                          go_loopw [28, 29, 30] (fun fo le i wx => ∃ k : Nat, ∃ o : Option Int, k ≤ fs.length ∧ i = .int .i64 (k : Int) ∧ fo = .bool o.isSome ∧ le = .int .i64 (o.getD 0) ∧ o = lst X (fs.take k) ∧ Below w4.heap.size w4 wx) (fun _ _ i _ => fs.length - (intOf i).toNat)
                                          case atStart => exact ⟨0, none, by omega, rfl, rfl, rfl, rfl, HB.out⟩
                                          case round =>
                                            obtain ⟨k7, o, hk7, rfl, rfl, rfl, ho, hB⟩ := hrel
                                            clear HB
                                            have HO7 : Hid (o = lst X (fs.take k7)) := ho
                                            clear ho
                                            by_cases hlt7 : k7 < fs.length
                                            · as_aux_lemma =>
                                                obtain ⟨bF, oF, rfl, hbF, hcF⟩ := facts_cells ST.out.2.2.2.1 hB (by omega)
                                                obtain ⟨bO', oO', hee, hbO, hcO⟩ := facts_cells ST.out.2.2.1 hB (by omega)
                                                injection hee with hee
                                                injection hee with hee1 hee2
                                                subst hee1; subst hee2
                                                obtain ⟨x0, x1, x2⟩ := hcF k7 hlt7
                                                obtain ⟨y0, y1, y2⟩ := hcO j6 hlt6
                                                rw [← HX.out] at y0 y1 y2
                                                have hstep := lst_succ X fs k7 hlt7
                                                generalize hY : fs[k7] = Y at x0 x1 x2 hstep
                                                have HST7 : Hid (lst X (fs.take (k7 + 1)) = lstep X (lst X (fs.take k7)) Y) := hstep
                                                have HB : Hid (Below w4.heap.size w4 wr) := hB
                                                have i1 : (k7 : Int) < (fs.length : Int) := by omega
                                                have i2 : (0 : Int) ≤ (k7 : Int) := by omega
                                                have i3 : (j6 : Int) < (Os.length : Int) := by omega
                                                have i4 : (0 : Int) ≤ (j6 : Int) := by omega
                                                clear hY hstep hB hcF hcO
                                                cases hg1 : (Y.1 == X.1)
                                                · have HG1 : Hid ((Y.1 == X.1) = false) := hg1
                                                  go_wp2_with fail
                                                  go_quiet (fail)
                                                  clear x0 x1 x2 y0 y1 y2
                                                  go_wp2
                                                  go_roundw
                                                  case rel => exact ⟨k7 + 1, o, by omega, by go_num, rfl, rfl, by rw [HST7.out, ← HO7.out, lstep_no (by simp [sameP, HG1.out])], below_drewN HB.out _⟩
                                                  case measure => simp [intOf]; omega
                                                · have HG1 : Hid ((Y.1 == X.1) = true) := hg1
                                                  cases hg2 : (Y.2.1 == X.2.1)
                                                  · have HG2 : Hid ((Y.2.1 == X.2.1) = false) := hg2
                                                    go_wp2_with fail
                                                    go_quiet (fail)
                                                    clear x0 x1 x2 y0 y1 y2
                                                    go_wp2
                                                    go_roundw
                                                    case rel => exact ⟨k7 + 1, o, by omega, by go_num, rfl, rfl, by rw [HST7.out, ← HO7.out, lstep_no (by simp [sameP, HG2.out])], below_drewN HB.out _⟩
                                                    case measure => simp [intOf]; omega
                                                  · have HG2 : Hid ((Y.2.1 == X.2.1) = true) := hg2
                                                    have HSP : Hid (sameP Y X = true) := by show sameP Y X = true; unfold sameP; rw [HG1.out, HG2.out]; rfl
                                                    cases o with
                                                    | none =>
                                                      go_wp2_with fail
                                                      go_quiet (fail)
                                                      go_wp2
                                                      go_roundw
                                                      case rel => exact ⟨k7 + 1, some Y.2.2, by omega, by go_num, rfl, rfl, by rw [HST7.out, ← HO7.out, lstep_none HSP.out], below_drewN HB.out _⟩
                                                      case measure => simp [intOf]; omega
                                                    | some l =>
                                                      by_cases hl7 : Y.2.2 < l
                                                      · go_wp2_with fail
                                                        go_quiet (fail)
                                                        go_wp2
                                                        go_roundw
                                                        case rel => exact ⟨k7 + 1, some Y.2.2, by omega, by go_num, rfl, rfl, by rw [HST7.out, ← HO7.out, lstep_lt HSP.out (by omega)], below_drewN HB.out _⟩
                                                        case measure => simp [intOf]; omega
                                                      · go_wp2_with fail
                                                        go_quiet (fail)
                                                        go_wp2
                                                        go_roundw
                                                        case rel => exact ⟨k7 + 1, some l, by omega, by go_num, rfl, rfl, by rw [HST7.out, ← HO7.out, lstep_ge HSP.out (by omega)], below_drewN HB.out _⟩
                                                        case measure => simp [intOf]; omega
                                            · as_aux_lemma =>
                                                have HB : Hid (Below w4.heap.size w4 wr) := hB
                                                obtain ⟨bO', oO', hee, hbO, hcO⟩ := facts_cells ST.out.2.2.1 hB (by omega)
                                                injection hee with hee
                                                injection hee with hee1 hee2
                                                subst hee1; subst hee2
                                                obtain ⟨y0, y1, y2⟩ := hcO j6 hlt6
                                                rw [← HX.out] at y0 y1 y2
                                                have ho7 : o = some X.2.2 := by
                                                  rw [HO7.out, List.take_of_length_le (by omega)]
                                                  exact lst_out fs X (by rw [HX.out, HOd.out]; exact List.getElem_mem hlt6)
                                                clear HO7 hcO hB
                                                subst ho7
                                                go_wp2
                                                go_roundw
                                                case rel => exact ⟨j6 + 1, by omega, by go_num, HB.out⟩
                                                case measure => simp [intOf]; omega
                                      · as_aux_lemma =>
                                          have HB : Hid (Below w4.heap.size w4 wr) := hB
                                          clear hB
                                          go_wp2_with fail
                                          go_loopw [31] (fun i wx => ∃ k : Nat, k ≤ fs.length ∧ i = .int .i64 (k : Int) ∧ Below w4.heap.size w4 wx) (fun i _ => fs.length - (intOf i).toNat)
                                          case atStart => exact ⟨0, by omega, rfl, HB.out⟩
                                          case round =>
                                            obtain ⟨k8, hk8, rfl, hB⟩ := hrel
                                            clear HB
                                            by_cases hlt8 : k8 < fs.length
                                            · as_aux_lemma =>
                                                have hcall := hasPair_any aO cO Os fs[k8] wr (facts_at_of (ST.out.2.2.1.later hB)) hl2
                                                obtain ⟨yy, hyy, hys⟩ := outF_cover fs fs[k8] (List.getElem_mem hlt8)
                                                rw [HOd.out] at hyy
                                                rw [hasP_of_mem hyy hys] at hcall
                                                obtain ⟨bF, oF, rfl, hbF, hcF⟩ := facts_cells ST.out.2.2.2.1 hB (by omega)
                                                obtain ⟨x0, x1, x2⟩ := hcF k8 hlt8
                                                have HB : Hid (Below w4.heap.size w4 wr) := hB
                                                clear hcF hB hyy hys
                                                go_wp2_with fail
                                                refine hcall.mono ?_
                                                rintro e w' ⟨rfl, hbw⟩
                                                have HB2 : Hid (Below w4.heap.size w4 w') := HB.out.trans (hbw.mono HB.out.size)
                                                clear hbw x0 x1 x2
                                                go_wp2
                                                go_roundw
                                                case rel => exact ⟨k8 + 1, by omega, by go_num, HB2.out⟩
                                                case measure => simp [intOf]; omega
                                            · as_aux_lemma =>
                                                have HB : Hid (Below w4.heap.size w4 wr) := hB
                                                clear hB
                                                go_wp2
                                                go_ret
                                                exact ⟨rfl, ST.out.2.2.2.2.trans (HB.out.mono ST.out.2.2.2.2.size)⟩
end Go.Proofs.Qxb6614728aGreatDoor
