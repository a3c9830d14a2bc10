import Derived.Test.Qxb6614728aGreatDoorLawA
namespace Go.Proofs.Qxb6614728aGreatDoor
open Go.RowKit Go.Sort

theorem apart_at {v u : Option Nat} (K : Nat) (hv : ∀ x, v = some x → x < K) (hu : ∀ x, u = some x → K ≤ x) : v = none ∨ v ≠ u := by
  cases v with
  | none => exact .inl rfl
  | some x => exact .inr (fun e => by have h1 := hv x rfl; have h2 := hu x e.symm; omega)
theorem apart_at' {v u : Option Nat} (K : Nat) (hv : ∀ x, v = some x → K ≤ x) (hu : ∀ x, u = some x → x < K) : v = none ∨ v ≠ u := by
  cases v with
  | none => exact .inl rfl
  | some x => exact .inr (fun e => by have h1 := hv x rfl; have h2 := hu x e.symm; omega)

set_option maxHeartbeats 1000000 in
set_option maxRecDepth 100000 in
theorem law4_big (g d : Int) (q : Bool) (a1 a2 a3 : Option Addr) (n1 n2 n3 c1 c2 c3 : Nat) (w : World) (h1 : n1 ≤ maxLen) (h2 : n2 ≤ maxLen) (h3 : n3 ≤ maxLen) (hb : ¬ (n1 ≤ 4096 ∧ n2 ≤ 4096 ∧ n3 ≤ 4096)) :
    Calls Tryz.prog 4 #[.int .i64 g, .slice a1 n1 c1, .bool q, .slice a2 n2 c2, .slice a3 n3 c3, .int .i64 d] w fun e w' => e = .returned (.bool true) ∧ w' = w := by
  cases hf : fits n1 n2 n3
  · have hc := bytes12 g d q a1 a2 a3 n1 n2 n3 c1 c2 c3 w h1 h2 h3
    rw [hf] at hc
    clear h1 h2 h3 hb
    go_enter Tryz.func4, Tryz.ntmps4
    go_wp2_with (go_at_call 12; refine hc.mono ?_; rintro e w' ⟨rfl, rfl⟩)
    go_ret
    exact ⟨rfl, rfl⟩
  · have hc := bytes12 g d q a1 a2 a3 n1 n2 n3 c1 c2 c3 w h1 h2 h3
    rw [hf] at hc
    clear h1 h2 h3
    by_cases g1 : n1 ≤ 4096
    · have e1 : decide ((4096 : Int) < n1) = false := by simp; omega
      by_cases g2 : n2 ≤ 4096
      · have e2 : decide ((4096 : Int) < n2) = false := by simp; omega
        have e3 : decide ((4096 : Int) < n3) = true := by simp; omega
        clear hb
        go_enter Tryz.func4, Tryz.ntmps4
        go_wp2_with (go_at_call 12; refine hc.mono ?_; rintro e w' ⟨rfl, rfl⟩)
        go_ret
        exact ⟨rfl, rfl⟩
      · have e2 : decide ((4096 : Int) < n2) = true := by simp; omega
        clear hb
        go_enter Tryz.func4, Tryz.ntmps4
        go_wp2_with (go_at_call 12; refine hc.mono ?_; rintro e w' ⟨rfl, rfl⟩)
        go_ret
        exact ⟨rfl, rfl⟩
    · have e1 : decide ((4096 : Int) < n1) = true := by simp; omega
      clear hb
      go_enter Tryz.func4, Tryz.ntmps4
      go_wp2_with (go_at_call 12; refine hc.mono ?_; rintro e w' ⟨rfl, rfl⟩)
      go_ret
      exact ⟨rfl, rfl⟩

set_option maxHeartbeats 3200000 in
set_option maxRecDepth 100000 in
theorem law4_main (g d : Int) (q : Bool) (a1 a2 a3 : Option Addr) (c1 c2 c3 : Nat) (zs : List Int) (fs : List F3) (ps : List Int) (w : World) (h1 : zs.length ≤ 4096) (h2 : fs.length ≤ 4096) (h3 : ps.length ≤ 4096)
    (hz : IntsAt w a1 zs) (hF : ArgF w a2 fs.length c2 fs) (hP : ArgP w a3 ps.length c3 ps) :
    Calls Tryz.prog 4 #[.int .i64 g, .slice a1 zs.length c1, .bool q, .slice a2 fs.length c2, .slice a3 ps.length c3, .int .i64 d] w fun e w' => e = .returned (.bool true) ∧ Below w.heap.size w w' := by
  have hc := bytes12 g d q a1 a2 a3 zs.length fs.length ps.length c1 c2 c3 w (by unfold maxLen; omega) (by unfold maxLen; omega) (by unfold maxLen; omega)
  rw [show fits zs.length fs.length ps.length = true by simp [fits]; omega] at hc
  have e1 : decide ((4096 : Int) < zs.length) = false := by simp; omega
  have e2 : decide ((4096 : Int) < fs.length) = false := by simp; omega
  have e3 : decide ((4096 : Int) < ps.length) = false := by simp; omega
  have hnf := Tryz.neqFacts
  have hni := Tryz.neqInts
  obtain ⟨i3, ii3, iz3, is3, ib3⟩ := info_parts Tryz.info3
  obtain ⟨i5, ii5, iz5, is5, ib5⟩ := info_parts Tryz.info25
  have hb3 : i3.bytes * ps.length ≤ 281474976710656 := by rw [ib3]; omega
  have hb5 : i5.bytes * fs.length ≤ 281474976710656 := by rw [ib5]; omega
  have hm3 : ps.length ≤ maxLen := by unfold maxLen; omega
  have hm5 : fs.length ≤ maxLen := by unfold maxLen; omega
  go_enter Tryz.func4, Tryz.ntmps4
  go_upto_if 60 with (go_at_call 12; refine hc.mono ?_; rintro e w' ⟨rfl, hw'⟩; have hw2 := hw'.symm; subst hw2)
  go_cut [3] (fun v wx => ∃ a c, v = .slice a fs.length c ∧ OwnF wx w.heap.size 25 (.slice a fs.length c) fs ∧ w.grownBy wx none)
  case first =>
    obtain ⟨_, hF⟩ := hF
    rcases hF with ⟨rfl, hn0, rfl⟩ | ⟨x, rfl, hx⟩
    · go_wp2_with fail
      go_meet
      case rel => exact ⟨none, 0, by rw [hn0], ownF_nil hn0, World.grownBy.refl _ _⟩
    · go_wp2_with (at_make; refine wpList_make_full _ rfl _ _ 23 rfl w.heap.size 25 i5 _ 3 Tryz.underlying23 ii5 iz5 is5 _ _ _ _ fs.length rfl rfl rfl rfl hb5 hm5 (Nat.le_refl _) ?_)
      intro w1 hown hgrow
      obtain ⟨w2, hcp, hown2, hgrow2⟩ := copy_all 23 25 i5 3 Tryz.underlying23 ii5 is5 hown x c2 (flat fs) (by rw [flat_len]) (fun j v hj => hgrow.cell (hx j v hj) (by simp)) (flat_one fs)
      have HR : Hid (OwnF w2 w.heap.size 25 (.slice (some ⟨w.heap.size, 0, none⟩) fs.length fs.length) fs ∧ w.grownBy w2 none) := ⟨hown2, gb_trans hgrow hgrow2 (fun j hj hlt => by injection hj with hj; omega)⟩
      clear hown hgrow hown2 hgrow2 hx
      go_wp2_with fail
      go_meet
      case rel => exact ⟨_, _, rfl, HR.out.1, HR.out.2⟩
  case rest =>
    obtain ⟨a2', c2', rfl, hF', hW'⟩ := hcut
    have HA : Hid (OwnF wc w.heap.size 25 (.slice a2' fs.length c2') fs ∧ w.grownBy wc none) := ⟨hF', hW'⟩
    clear hF' hW' hF
    go_upto_if 69 with fail
    go_cut [4] (fun v wx => ∃ a c, v = .slice a ps.length c ∧ OwnF wx w.heap.size 25 (.slice a2' fs.length c2') fs ∧ w.grownBy wx none)
    case first =>
      obtain ⟨_, hP⟩ := hP
      rcases hP with ⟨rfl, hn0, rfl⟩ | ⟨x, rfl, hx⟩
      · go_wp2_with fail
        go_meet
        case rel => exact ⟨none, 0, by rw [hn0], HA.out.1, HA.out.2⟩
      · go_wp2_with (at_make; refine wpList_make_full _ rfl _ _ 22 rfl wc.heap.size 3 i3 (.int .i64 0) 1 Tryz.underlying22 ii3 iz3 is3 _ _ _ _ ps.length rfl rfl rfl rfl hb3 hm3 (Nat.le_refl _) ?_)
        intro w1 hown hgrow
        obtain ⟨w2, hcp, hown2, hgrow2⟩ := copy_all 22 3 i3 1 Tryz.underlying22 ii3 is3 hown x c3 (ps.map (Value.int .i64)) (by simp) (fun j v hj => hgrow.cell (HA.out.2.cell (hx j v hj) (by simp)) (by simp)) (ints_oneCell _ _)
        have hg3 := gb_trans hgrow hgrow2 (r := none) (fun j hj hlt => by injection hj with hj; omega)
        have HR : Hid (OwnF w2 w.heap.size 25 (.slice a2' fs.length c2') fs ∧ w.grownBy w2 none) := ⟨HA.out.1.kept hg3 (by cases (Value.slice a2' fs.length c2').ownBlock <;> simp), gb_trans HA.out.2 hg3 (by simp)⟩
        clear hown hgrow hown2 hgrow2 hx hg3
        go_wp2_with fail
        go_meet
        case rel => exact ⟨_, _, rfl, HR.out.1, HR.out.2⟩
    case rest =>
      clear HA hP hc
      obtain ⟨a3', c3', rfl, hF', hW'⟩ := hcut
      go_wp2_with fail
      go_loop [15] (fun i => ∃ k : Nat, k ≤ fs.length ∧ i = .int .i64 k ∧ ∀ j (h : j < fs.length), j < k → fs[j].2.2 < d) (fun i => fs.length - (intOf i).toNat)
      case atStart => exact ⟨0, Nat.zero_le _, rfl, fun j _ h => by omega⟩
      case round =>
        obtain ⟨k, hk, rfl, hsh⟩ := hrel
        have HS : Hid (∀ j (h : j < fs.length), j < k → fs[j].2.2 < d) := hsh
        have HA : Hid (OwnF wc w.heap.size 25 (.slice a2' fs.length c2') fs ∧ w.grownBy wc none) := ⟨hF', hW'⟩
        clear hsh
        by_cases hlt : k < fs.length
        · as_aux_lemma =>
            obtain ⟨b, off, rfl, hbl, hcs⟩ : ∃ b off, a2' = some ⟨b, off, none⟩ ∧ b < wc.heap.size ∧ Cells3 wc b off fs := by
              rcases facts_at_of hF' with h | h
              · subst h; simp at hlt
              · exact h
            obtain ⟨x0, x1, x2⟩ := hcs k hlt
            clear hF' hW' hcs
            by_cases hge : fs[k].2.2 < d
            · go_wp2
              go_round
              case rel => exact ⟨k + 1, by omega, by go_num, fun j h hj => by by_cases e : j = k; subst e; exact hge; exact HS.out j h (by omega)⟩
              case measure => simp [intOf]; omega
            · go_wp2
              go_ret
              exact ⟨rfl, gb_below HA.out.2 (Nat.le_refl _) (by simp)⟩
        · as_aux_lemma =>
            clear hF' hW'
            have hd : Hid (∀ f ∈ fs, f.2.2 < d) := fun f hf => by
              obtain ⟨j, hj, rfl⟩ := List.getElem_of_mem hf
              exact HS.out j hj (by omega)
            have ek : k = fs.length := by omega
            clear HS hk hlt
            subst ek
            have hz1 : IntsAt wc a1 zs := by
              rcases hz with h | ⟨b, off, hb, hbl, hcl⟩
              · exact .inl h
              · exact .inr ⟨b, off, hb, Nat.lt_of_lt_of_le hbl HA.out.2.size, fun j hj => HA.out.2.cell (hcl j hj) (by simp)⟩
            obtain ⟨Zr, hZr⟩ : ∃ Zr, Zr = zs.reverse := ⟨_, rfl⟩
            obtain ⟨Fr, hFr⟩ : ∃ Fr, Fr = fs.reverse := ⟨_, rfl⟩
            have HZr : Hid (Zr = zs.reverse) := hZr
            have HFr : Hid (Fr = fs.reverse) := hFr
            have lZ : Zr.length ≤ 4096 := by rw [hZr, List.length_reverse]; exact h1
            have lF : Fr.length ≤ 4096 := by rw [hFr, List.length_reverse]; exact h2
            clear hZr hFr
            go_wp2_with fail
            refine (clone_any a1 c1 zs _ hz1 h1).mono ?_
            rintro e w2 ⟨am, cm, rfl, hM, hg⟩
            have hz2 : IntsAt w2 a1 zs := by
              rcases hz1 with h | ⟨b, off, hb, hbl, hcl⟩
              · exact .inl h
              · exact .inr ⟨b, off, hb, Nat.lt_of_lt_of_le hbl hg.size, fun j hj => hg.cell (hcl j hj) (by simp)⟩
            have hF2 := HA.out.1.later (gb_below hg (Nat.le_refl _) (by simp))
            have hW2 := (gb_below HA.out.2 (Nat.le_refl _) (by simp)).trans ((gb_below hg (Nat.le_refl _) (by simp)).mono HA.out.2.size)
            have lM : Hid (∀ x, (Value.slice am zs.length cm).ownBlock = some x → wc.heap.size ≤ x ∧ x < w2.heap.size) := fun x e => World.ownsRow.lt hM x e
            have lFc : Hid (∀ x, (Value.slice a2' fs.length c2').ownBlock = some x → x < wc.heap.size) := fun x e => (World.ownsRow.lt HA.out.1 x e).2
            have s2 := hg.size
            clear hz1 hg
            go_wp2_with fail
            refine (clone_any a1 c1 zs _ hz2 h1).mono ?_
            rintro e w3 ⟨ag, cg, rfl, hG, hg⟩
            have hz3 : IntsAt w3 a1 zs := by
              rcases hz2 with h | ⟨b, off, hb, hbl, hcl⟩
              · exact .inl h
              · exact .inr ⟨b, off, hb, Nat.lt_of_lt_of_le hbl hg.size, fun j hj => hg.cell (hcl j hj) (by simp)⟩
            have b3 := gb_below hg (Nat.le_refl _) (by simp)
            have hF3 := hF2.later b3
            have hM3 := hM.later b3
            have hW3 := hW2.trans (b3.mono hW2.size)
            have lG : Hid (∀ x, (Value.slice ag zs.length cg).ownBlock = some x → w2.heap.size ≤ x ∧ x < w3.heap.size) := fun x e => World.ownsRow.lt hG x e
            have s3 := hg.size
            clear hz2 hg hF2 hM hW2 b3
            go_wp2_with fail
            have hrI := revI_any a1 c1 zs w3 hz3 h1
            rw [← HZr.out] at hrI
            refine hrI.mono ?_
            rintro e w4 ⟨ar, cr, rfl, hR, hg⟩
            have b4 := gb_below hg (Nat.le_refl _) (by simp)
            have hF4 := hF3.later b4
            have hM4 := hM3.later b4
            have hG4 := hG.later b4
            have hW4 := hW3.trans (b4.mono hW3.size)
            have lR : Hid (∀ x, (Value.slice ar Zr.length cr).ownBlock = some x → w3.heap.size ≤ x ∧ x < w4.heap.size) := fun x e => World.ownsRow.lt hR x e
            have s4 := hg.size
            clear hz3 hg hF3 hM3 hG hW3 b4 hrI
            go_wp2_with fail
            have hrF := revF_any w.heap.size a2' c2' fs w4 hF4 h2
            rw [← HFr.out] at hrF
            refine hrF.mono ?_
            rintro e w5 ⟨as', cs', rfl, hS, hg⟩
            have b5 := gb_below hg (Nat.le_refl _) (by simp)
            have hF5 := hF4.later b5
            have hM5 := hM4.later b5
            have hG5 := hG4.later b5
            have hR5 := hR.later b5
            have hW5 := hW4.trans (b5.mono hW4.size)
            have lS : Hid (∀ x, (Value.slice as' Fr.length cs').ownBlock = some x → w4.heap.size ≤ x ∧ x < w5.heap.size) := fun x e => World.ownsRow.lt hS x e
            have s5 := hg.size
            clear hg hF4 hM4 hG4 hR hW4 b5 hrF
            go_wp2_with fail
            refine (zzrecut_any ag a2' a3' cg c2' ps.length c3' w2.heap.size w.heap.size g d q zs fs _ h1 h2 hG5 hF5 hd.out).mono ?_
            rintro e w6 ⟨at1, ct1, ao1, co1, rfl, hT6, hO6, hg, hbT⟩
            have hF6 := hF5.kept hg (apart_at w2.heap.size (fun x e => by have := lFc.out x e; omega) (fun x e => (lG.out x e).1))
            have hM6 := hM5.kept hg (apart_at w2.heap.size (fun x e => (lM.out x e).2) (fun x e => (lG.out x e).1))
            have hR6 := hR5.kept hg (apart_at' w3.heap.size (fun x e => (lR.out x e).1) (fun x e => (lG.out x e).2))
            have hS6 := hS.kept hg (apart_at' w4.heap.size (fun x e => (lS.out x e).1) (fun x e => by have := (lG.out x e).2; omega))
            have hW6 := hW5.trans (gb_below hg hW5.size (fun x e => by have h1' := (lG.out x e).1; have h2' := HA.out.2.size; omega))
            have lT1 : Hid (∀ x, (Value.slice at1 (outT zs).length ct1).ownBlock = some x → w2.heap.size ≤ x ∧ x < w3.heap.size) := fun x e => lG.out x (hbT ▸ e)
            have lO1 : Hid (∀ x, (Value.slice ao1 (outF fs).length co1).ownBlock = some x → w5.heap.size ≤ x ∧ x < w6.heap.size) := fun x e => World.ownsRow.lt hO6 x e
            have s6 := hg.size
            clear hg hbT hF5 hM5 hG5 hR5 hS hW5
            go_wp2_with fail
            have hrc := zzrecut_any ar as' a3' cr cs' ps.length c3' w3.heap.size w4.heap.size g d q Zr Fr w6 lZ lF hR6 hS6 (fun f hf => hd.out f (by rw [HFr.out] at hf; simpa using hf))
            rw [show outT Zr = outT zs by rw [HZr.out]; exact outT_rev zs, show outF Fr = outF fs by rw [HFr.out]; exact outF_rev fs] at hrc
            refine hrc.mono ?_
            rintro e w7 ⟨at2, ct2, ao2, co2, rfl, hT7, hO7, hg, hbT⟩
            have hF7 := hF6.kept hg (apart_at w3.heap.size (fun x e => by have := lFc.out x e; omega) (fun x e => (lR.out x e).1))
            have hM7 := hM6.kept hg (apart_at w3.heap.size (fun x e => by have := (lM.out x e).2; omega) (fun x e => (lR.out x e).1))
            have hT17 := hT6.kept hg (apart_at w3.heap.size (fun x e => (lT1.out x e).2) (fun x e => (lR.out x e).1))
            have hO17 := hO6.kept hg (apart_at' w5.heap.size (fun x e => (lO1.out x e).1) (fun x e => by have := (lR.out x e).2; omega))
            have hW7 := hW6.trans (gb_below hg hW6.size (fun x e => by have h1' := (lR.out x e).1; have h2' := HA.out.2.size; omega))
            have lT2 : Hid (∀ x, (Value.slice at2 (outT zs).length ct2).ownBlock = some x → w3.heap.size ≤ x ∧ x < w4.heap.size) := fun x e => lR.out x (hbT ▸ e)
            have lO2 : Hid (∀ x, (Value.slice ao2 (outF fs).length co2).ownBlock = some x → w6.heap.size ≤ x ∧ x < w7.heap.size) := fun x e => World.ownsRow.lt hO7 x e
            have s7 := hg.size
            clear hg hbT hF6 hM6 hR6 hS6 hW6 hT6 hO6 hrc
            have lo1 : (outT zs).length ≤ 4096 := outT_le zs h1
            have lo2 : (outF fs).length ≤ 4096 := outF_le fs h2
            go_wp2_with fail
            refine (clone_any at1 ct1 (outT zs) _ (ints_at_of hT17) lo1).mono ?_
            rintro e w8 ⟨aa, ca, rfl, hA8, hg⟩
            have b8 := gb_below hg (Nat.le_refl _) (by simp)
            have hF8 := hF7.later b8
            have hM8 := hM7.later b8
            have hT18 := hT17.later b8
            have hT28 := hT7.later b8
            have hO18 := hO17.later b8
            have hO28 := hO7.later b8
            have hW8 := hW7.trans (b8.mono hW7.size)
            have lA : Hid (∀ x, (Value.slice aa (outT zs).length ca).ownBlock = some x → w7.heap.size ≤ x ∧ x < w8.heap.size) := fun x e => World.ownsRow.lt hA8 x e
            have s8 := hg.size
            clear hg b8 hF7 hM7 hT17 hT7 hO17 hO7 hW7
            go_wp2_with fail
            have hrc := zzrecut_any aa ao1 none ca co1 0 0 w7.heap.size w5.heap.size d d false (outT zs) (outF fs) w8 lo1 lo2 hA8 hO18 (fun f hf => hd.out f (outF_mem fs f hf))
            rw [outT_idem, outF_idem] at hrc
            refine hrc.mono ?_
            rintro e w9 ⟨at3, ct3, ao3, co3, rfl, hT39, hO39, hg, hbT⟩
            have hF9 := hF8.kept hg (apart_at w7.heap.size (fun x e => by have := lFc.out x e; omega) (fun x e => (lA.out x e).1))
            have hM9 := hM8.kept hg (apart_at w7.heap.size (fun x e => by have := (lM.out x e).2; omega) (fun x e => (lA.out x e).1))
            have hT19 := hT18.kept hg (apart_at w7.heap.size (fun x e => by have := (lT1.out x e).2; omega) (fun x e => (lA.out x e).1))
            have hT29 := hT28.kept hg (apart_at w7.heap.size (fun x e => by have := (lT2.out x e).2; omega) (fun x e => (lA.out x e).1))
            have hO19 := hO18.kept hg (apart_at w7.heap.size (fun x e => by have := (lO1.out x e).2; omega) (fun x e => (lA.out x e).1))
            have hO29 := hO28.kept hg (apart_at w7.heap.size (fun x e => (lO2.out x e).2) (fun x e => (lA.out x e).1))
            have hW9 := hW8.trans (gb_below hg hW8.size (fun x e => by have h1' := (lA.out x e).1; have h2' := HA.out.2.size; omega))
            have ST : Hid (OwnI w9 wc.heap.size (.slice am zs.length cm) zs ∧ OwnF w9 w.heap.size 25 (.slice a2' fs.length c2') fs ∧ OwnI w9 w2.heap.size (.slice at1 (outT zs).length ct1) (outT zs) ∧ OwnI w9 w3.heap.size (.slice at2 (outT zs).length ct2) (outT zs) ∧ OwnI w9 w7.heap.size (.slice at3 (outT zs).length ct3) (outT zs) ∧
                OwnF w9 w5.heap.size 25 (.slice ao1 (outF fs).length co1) (outF fs) ∧ OwnF w9 w6.heap.size 25 (.slice ao2 (outF fs).length co2) (outF fs) ∧ OwnF w9 w8.heap.size 25 (.slice ao3 (outF fs).length co3) (outF fs) ∧ Below w.heap.size w w9) := ⟨hM9, hF9, hT19, hT29, hT39, hO19, hO29, hO39, hW9⟩
            clear hg hbT hF8 hM8 hT18 hT28 hO18 hO28 hW8 hA8 hrc hF9 hM9 hT19 hT29 hT39 hO19 hO29 hO39 hW9 HA hz lFc lM lG lR lS lT1 lT2 lO1 lO2 lA s2 s3 s4 s5 s6 s7 s8 HZr HFr
            generalize hTd : outT zs = Ts at ST lo1 ⊢
            have HTm : Hid (∀ x, x ∈ Ts ↔ x ∈ zs) := fun x => hTd ▸ mem_outT zs x
            generalize hOd : outF fs = Os at ST lo2 ⊢
            have HOd : Hid (outF fs = Os) := hOd
            clear hTd hOd
            go_wp2_with fail
            go_loopw [36] (fun i wx => ∃ k : Nat, k ≤ zs.length ∧ i = .int .i64 (k : Int) ∧ Below w9.heap.size w9 wx) (fun i _ => zs.length - (intOf i).toNat)
            case atStart => exact ⟨0, by omega, rfl, Below.refl _ _⟩
            case round =>
              obtain ⟨k, hk, rfl, hB⟩ := hrel
              by_cases hlt : k < zs.length
              · as_aux_lemma =>
                  obtain ⟨b, off, rfl, hbl, hcs⟩ := ints_cells ST.out.1 hB (by omega)
                  have x0 := hcs k hlt
                  have hcall := has_any at1 ct1 Ts zs[k] wr (ints_at_of (ST.out.2.2.1.later hB)) lo1
                  rw [hasB_of_mem ((HTm.out zs[k]).2 (List.getElem_mem hlt))] at hcall
                  have HB : Hid (Below w9.heap.size w9 wr) := hB
                  clear hcs hB
                  go_wp2_with fail
                  refine hcall.mono ?_
                  rintro e w' ⟨rfl, rfl⟩
                  clear x0
                  go_wp2
                  go_roundw
                  case rel => exact ⟨k + 1, by omega, by go_num, HB.out⟩
                  case measure => simp [intOf]; omega
              · as_aux_lemma =>
                  have HB : Hid (Below w9.heap.size w9 wr) := hB
                  clear hB
                  go_wp2_with fail
                  go_loopw [37] (fun i wx => ∃ k : Nat, k ≤ fs.length ∧ i = .int .i64 (k : Int) ∧ Below w9.heap.size w9 wx) (fun i _ => fs.length - (intOf i).toNat)
                  case atStart => exact ⟨0, by omega, rfl, HB.out⟩
                  case round =>
                    obtain ⟨k8, hk8, rfl, hB⟩ := hrel
                    clear HB
                    by_cases hlt8 : k8 < fs.length
                    · as_aux_lemma =>
                        have hcall := hasPair_any ao1 co1 Os fs[k8] wr (facts_at_of (ST.out.2.2.2.2.2.1.later hB)) lo2
                        obtain ⟨yy, hyy, hys⟩ := outF_cover fs fs[k8] (List.getElem_mem hlt8)
                        rw [HOd.out] at hyy
                        rw [hasP_of_mem hyy hys] at hcall
                        obtain ⟨bF, oF, rfl, hbF, hcF⟩ := facts_cells ST.out.2.1 hB (by omega)
                        obtain ⟨x0, x1, x2⟩ := hcF k8 hlt8
                        have HB : Hid (Below w9.heap.size w9 wr) := hB
                        clear hcF hB hyy hys
                        go_wp2_with fail
                        refine hcall.mono ?_
                        rintro e w' ⟨rfl, hbw⟩
                        have HB2 : Hid (Below w9.heap.size w9 w') := HB.out.trans (hbw.mono HB.out.size)
                        clear hbw x0 x1 x2
                        go_wp2
                        go_roundw
                        case rel => exact ⟨k8 + 1, by omega, by go_num, HB2.out⟩
                        case measure => simp [intOf]; omega
                    · as_aux_lemma =>
                        have HB : Hid (Below w9.heap.size w9 wr) := hB
                        clear hB
                        go_wp2_with fail
                        refine (eqI_any at2 at1 ct2 ct1 Ts wr lo1 (ints_at_of (ST.out.2.2.2.1.later HB.out)) (ints_at_of (ST.out.2.2.1.later HB.out))).mono ?_
                        rintro e wA ⟨rfl, qA, hA⟩
                        have HA1 : Hid (Below w9.heap.size w9 wA) := hA ▸ below_drewN HB.out _
                        clear hA
                        go_wp2_with fail
                        refine (eqF_any ao2 ao1 co2 co1 Os wA lo2 (facts_at_of (ST.out.2.2.2.2.2.2.1.later HA1.out)) (facts_at_of (ST.out.2.2.2.2.2.1.later HA1.out))).mono ?_
                        rintro e wB ⟨rfl, qB, hBq⟩
                        have HB1 : Hid (Below w9.heap.size w9 wB) := hBq ▸ below_drewN HA1.out _
                        clear hBq
                        go_wp2_with fail
                        refine (eqI_any at3 at1 ct3 ct1 Ts wB lo1 (ints_at_of (ST.out.2.2.2.2.1.later HB1.out)) (ints_at_of (ST.out.2.2.1.later HB1.out))).mono ?_
                        rintro e wC ⟨rfl, qC, hCq⟩
                        have HC1 : Hid (Below w9.heap.size w9 wC) := hCq ▸ below_drewN HB1.out _
                        clear hCq
                        go_wp2_with fail
                        refine (eqF_any ao3 ao1 co3 co1 Os wC lo2 (facts_at_of (ST.out.2.2.2.2.2.2.2.1.later HC1.out)) (facts_at_of (ST.out.2.2.2.2.2.1.later HC1.out))).mono ?_
                        rintro e wD ⟨rfl, qD, hDq⟩
                        have HD1 : Hid (Below w9.heap.size w9 wD) := hDq ▸ below_drewN HC1.out _
                        clear hDq
                        go_wp2
                        go_ret
                        exact ⟨rfl, ST.out.2.2.2.2.2.2.2.2.trans (HD1.out.mono ST.out.2.2.2.2.2.2.2.2.size)⟩
end Go.Proofs.Qxb6614728aGreatDoor
