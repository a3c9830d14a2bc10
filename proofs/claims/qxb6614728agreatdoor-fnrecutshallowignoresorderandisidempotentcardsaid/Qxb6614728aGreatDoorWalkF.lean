import Derived.Test.Qxb6614728aGreatDoorWalkE
import Derived.Shelf.SlSortCmp.QuietGrown
import Derived.Maps.RangeWalk
namespace Go.Proofs.Qxb6614728aGreatDoor
open Go.RowKit Go.Sort

theorem mixed : Tryz.prog.follows .mixedOrders = true := by kernel_rfl
theorem grownBy_grow (w : World) (n : Nat) (os : Array Obj) : w.grownBy (grow (w.drewN n) os) none :=
  ⟨rfl, rfl, rfl, by simp [grow, World.drewN], fun k hk _ => by show (w.heap ++ os)[k]? = _; rw [Array.getElem?_append_left hk]⟩

theorem wrap_small (m : Nat) (h : m ≤ 1000000) : IntKind.i64.wrap (m : Int) = m := by
  simp [IntKind.wrap, IntKind.bits, IntKind.signed]; omega

/-- The three cells of element j. -/
theorem own_cells {w : World} {B g cap : Nat} {e : TypeId} {fs : List F3} {n : Nat} (h : w.ownsRow B e 3 (.slice (some ⟨g, 0, none⟩) n cap) n (flat fs)) (j : Nat) (hj : j < fs.length) (hn : fs.length = n) :
    w.cell? ⟨g, j * 3, none⟩ = some (.int .i64 fs[j].1) ∧ w.cell? ⟨g, j * 3 + 1, none⟩ = some (.int .i64 fs[j].2.1) ∧ w.cell? ⟨g, j * 3 + 2, none⟩ = some (.int .i64 fs[j].2.2) := by
  obtain ⟨g0, g1, g2⟩ := flat_get fs j hj
  rw [← h.cellAt _ (by omega)] at g0 g1 g2
  exact ⟨g0, g1, g2⟩

theorem own_cap {w : World} {B g cap e n sz : Nat} {xs : List Value} (h : w.ownsRow B e sz (.slice (some ⟨g, 0, none⟩) n cap) n xs) : n ≤ cap := by
  rcases h.2 with ⟨h0, _⟩ | ⟨g', cap', cur, hv, _, _, h1, _⟩
  · cases h0
  · cases hv; exact h1
theorem own_capm {w : World} {B g cap e n sz : Nat} {xs : List Value} (h : w.ownsRow B e sz (.slice (some ⟨g, 0, none⟩) n cap) n xs) : cap ≤ maxLen := by
  rcases h.2 with ⟨h0, _⟩ | ⟨g', cap', cur, hv, _, _, _, h1, _⟩
  · cases h0
  · cases hv; exact h1

theorem zero37 (w : World) : (zeroValue 37).run Tryz.prog w = .ok (.agg #[.int .i64 0, .int .i64 0, .int .i64 0]) w := by kernel_rfl

theorem gb_setRow (w : World) (g : Nat) (cs : Array Value) : w.grownBy (w.setRow g cs) (some g) :=
  ⟨rfl, rfl, rfl, by simp, fun k _ hne => setRow_other w g k cs (fun e => hne (by rw [e]))⟩

theorem gb_same {w wr : World} {g : Nat} (h : w.grownBy wr (some g)) (o : Nat) (u : Value) : w.grownBy (wr.setCell ⟨g, o, none⟩ u) (some g) :=
  ⟨h.os, h.tape, h.output, by simpa [World.setCell] using h.size, fun k hk hne => (Below.heap_setCell _ _ _ _ (fun e => hne (by rw [e]))).trans (h.block k hk hne)⟩

/-- 'clear(s[k:])', s a row of facts of the call's own: what lies ahead of k stays. -/
theorem clear_facts {w : World} {B g cap n k : Nat} {L : List F3} (h : w.ownsRow B 37 3 (.slice (some ⟨g, 0, none⟩) n cap) n (flat L)) (hk : k < n) (hL : L.length = n) :
    ∃ w', (∀ ty c, (Builtin.clear_ #[35] ty #[.slice (some ⟨g, k * 3, none⟩) (n - k) c]).run Tryz.prog w = .ok (.tuple #[]) w') ∧ w'.ownsRow B 37 3 (.slice (some ⟨g, 0, none⟩) k cap) k (flat (L.take k)) ∧ w.grownBy w' (some g) := by
  rcases h.2 with ⟨h0, _⟩ | ⟨g', cap', cur, hv, hb, hg, hn, hm, hs, ht⟩
  · cases h0
  cases hv
  obtain ⟨zs, hzs⟩ : ∃ zs, zs = (Builtin.zeroCells (Value.agg #[.int .i64 0, .int .i64 0, .int .i64 0]).cells (n - k)).toList := ⟨_, rfl⟩
  have hzl : zs.length = (n - k) * 3 := by rw [hzs, Array.length_toList, size_zeroCells]; rfl
  have hz1 : ∀ u ∈ zs, u.oneCell' = true := by
    intro u hu
    rw [hzs] at hu
    simp only [Builtin.zeroCells, Array.toList_map, List.mem_map] at hu
    obtain ⟨i, _, rfl⟩ := hu
    have : i % 3 = 0 ∨ i % 3 = 1 ∨ i % 3 = 2 := by omega
    rcases this with h | h | h <;> simp [Value.cells, h] <;> rfl
  have hst := run_storeCells_at (P := Tryz.prog) g (k * 3) 37 zs 0 cur w hg (by rw [hzl, hs]; omega) hz1
  simp only [Nat.add_zero] at hst
  refine ⟨w.setRow g (cur.toList.take (k * 3) ++ zs ++ cur.toList.drop (k * 3 + zs.length)).toArray, ?_, ⟨?_, .inr ⟨g, cap, _, rfl, hb, setRow_heap w g _ _ _ _ hg, by omega, hm, ?_, ?_⟩⟩, gb_setRow _ _ _⟩
  · intro ty c
    obtain ⟨m, hm'⟩ : ∃ m, n - k = m + 1 := ⟨n - k - 1, by omega⟩
    rw [hm'] at hzs ⊢
    simp [Builtin.clear_, run_underlying Tryz.underlying35, ← hzs, hst]
  · rw [flat_len, List.length_take, hL]; omega
  · simp [hzl, hs]; omega
  · have e : flat (L.take k) = (flat L).take (k * 3) := by
      have := flat_append (L.take k) (L.drop k)
      rw [List.take_append_drop] at this
      rw [this, List.take_left' (by rw [flat_len, List.length_take, hL]; omega)]
    have hlen : (cur.toList.take (k * 3)).length = k * 3 := by simp [hs]; omega
    rw [e, ← ht, List.take_take, Nat.min_eq_left (by omega)]
    show (cur.toList.take (k * 3) ++ zs ++ cur.toList.drop (k * 3 + zs.length)).take (k * 3) = _
    rw [List.append_assoc, List.take_left' hlen]

set_option maxHeartbeats 1000000 in
theorem compactFunc_long (B g cap : Nat) (fs : List F3) (w : World) (hm : fs.length ≤ 4096) (h2 : 2 ≤ fs.length) (hown : w.ownsRow B 37 3 (.slice (some ⟨g, 0, none⟩) fs.length cap) fs.length (flat fs)) :
    Calls Tryz.prog 28 #[.slice (some ⟨g, 0, none⟩) fs.length cap, .func (.func 29) #[] #[]] w fun e w' => e = .returned (.slice (some ⟨g, 0, none⟩) (compF fs).length cap) ∧
      w'.ownsRow B 37 3 (.slice (some ⟨g, 0, none⟩) (compF fs).length cap) (compF fs).length (flat (compF fs)) ∧ w.grownBy w' (some g) := by
  have mixed := mixed
  have e29 : ∀ args w, (callFunc 29 args).run Tryz.prog w = .ok (.enter 29 args) w := enters_of Tryz.func29 (by kernel_rfl) rfl
  have hd : decide ((fs.length : Int) < 2) = false := by simp; omega
  go_enter Tryz.func28, Tryz.ntmps28
  go_wp2
  go_loopw [5] (fun i wr => ∃ m : Nat, m + 1 ≤ fs.length ∧ i = .int .i64 ((m : Int) + 1) ∧ compF (fs.take (m + 1)) = fs.take (m + 1) ∧ wr.ownsRow B 37 3 (.slice (some ⟨g, 0, none⟩) fs.length cap) fs.length (flat fs) ∧ w.grownBy wr none) (fun i _ => fs.length - (intOf i).toNat)
  case atStart => exact ⟨0, by omega, rfl, compF_one _ (by simp; omega), hown, World.grownBy.refl _ _⟩
  case round =>
    obtain ⟨m, hmn, rfl, hC, hown', hgrow'⟩ := hrel
    have HC : Hid (compF (fs.take (m + 1)) = fs.take (m + 1)) := hC
    clear hC
    by_cases hlt : m + 1 < fs.length
    · obtain ⟨a0, a1, a2⟩ := own_cells hown' (m + 1) hlt rfl
      obtain ⟨b0, b1, b2⟩ := own_cells hown' m (by omega) rfl
      have hgl : g < wr.heap.size := (hown'.lt g rfl).2
      have A0 := cell_grown hgl a0
      have A1 := cell_grown hgl a1
      have A2 := cell_grown hgl a2
      have B0 := cell_grown hgl b0
      have B1 := cell_grown hgl b1
      have B2 := cell_grown hgl b2
      clear a0 a1 a2 b0 b1 b2
      have i1 : (m : Int) + 1 < (fs.length : Int) := by omega
      have i2 : (0 : Int) ≤ (m : Int) + 1 := by omega
      have i3 : (m : Int) < (fs.length : Int) := by omega
      have wm : IntKind.i64.wrap (m : Int) = m := wrap_small m (by omega)
      have hcap : fs.length ≤ cap := own_cap hown'
      have hcm : cap ≤ maxLen := own_capm hown'
      unfold maxLen at hcm
      go_wp2_with fail
      go_quiet_grown (first | (go_at_call 29; refine Calls.grown_of (closure29 _ _ _)))
      clear A0 A1 A2 B0 B1 B2
      go_wp2
      rotate_left
      · go_roundw
        case rel => exact ⟨m + 1, by omega, by go_num, by rw [compF_take fs m hlt, ‹sameP fs[m + 1] fs[m] = false›, HC.out]; simp, hown'.kept (grownBy_grow _ _ _) (by simp [Value.ownBlock]), gb_trans hgrow' (grownBy_grow _ _ _) (by simp)⟩
        case measure => simp [intOf]; omega
      · have hst : sameP fs[m + 1] fs[m] = true := by assumption
        have K0 : Hid (compF (fs.take (m + 2)) = fs.take (m + 1)) := by show compF (fs.take (m + 2)) = _; rw [compF_take fs m hlt, hst, HC.out]; simp
        have hown2 := hown'.kept (grownBy_grow wr nq osq) (by simp [Value.ownBlock])
        have hgrow2 := gb_trans hgrow' (grownBy_grow wr nq osq) (by simp)
        simp only [hst]
        clear hst
        generalize grow (wr.drewN nq) osq = w2 at hown2 hgrow2 ⊢
        go_loopw [5, 7] (fun i i2 wx => ∃ k q : Nat, ∃ L : List F3, i = .int .i64 (k : Int) ∧ i2 = .int .i64 ((q : Int) + 1) ∧ m + q + 2 ≤ fs.length ∧ k = (compF (fs.take (m + q + 2))).length ∧ 1 ≤ k ∧ k ≤ m + q + 1 ∧ L.length = fs.length ∧ L.take k = compF (fs.take (m + q + 2)) ∧ (∀ j (h1 : j < L.length) (h2 : j < fs.length), m + q + 1 ≤ j → L[j] = fs[j]) ∧ wx.ownsRow B 37 3 (.slice (some ⟨g, 0, none⟩) fs.length cap) fs.length (flat L) ∧ w.grownBy wx (some g)) (fun _ i2 _ => fs.length - (intOf i2).toNat)
        case atStart => exact ⟨m + 1, 0, fs, by go_num, rfl, by omega, by rw [show m + 0 + 2 = m + 2 from rfl, K0.out]; simp; omega, by omega, by omega, rfl, by rw [show m + 0 + 2 = m + 2 from rfl, K0.out], fun j _ _ _ => rfl, hown2, hgrow2.but _⟩
        case round =>
          obtain ⟨k, q, L, rfl, rfl, hkn, hkl, hk1, hkm, hLn, hLt, hLs, hownx, hgrowx⟩ := hrel
          have HK : Hid (k = (compF (fs.take (m + q + 2))).length) := hkl
          have HL : Hid (L.take k = compF (fs.take (m + q + 2))) := hLt
          have HN : Hid (L.length = fs.length) := hLn
          have HS : Hid (∀ j (h1 : j < L.length) (h2 : j < fs.length), m + q + 1 ≤ j → L[j] = fs[j]) := hLs
          have HG : Hid (w.grownBy wr (some g)) := hgrowx
          have HO : Hid (wr.ownsRow B 37 3 (.slice (some ⟨g, 0, none⟩) fs.length cap) fs.length (flat L)) := hownx
          clear hkl hLt hLs hLn hgrowx
          by_cases hin : m + q + 2 < fs.length
          · obtain ⟨a0, a1, a2⟩ := own_cells hownx (m + q + 2) (by rw [HN.out]; omega) HN.out
            obtain ⟨b0, b1, b2⟩ := own_cells hownx (m + q + 1) (by rw [HN.out]; omega) HN.out
            have hgx : g < wr.heap.size := (hownx.lt g rfl).2
            rw [HS.out (m + q + 2) (by rw [HN.out]; omega) (by omega) (by omega), show (m + q + 2) * 3 = (m + 1) * 3 + (q + 1) * 3 by omega] at a0 a1 a2
            rw [HS.out (m + q + 1) (by rw [HN.out]; omega) (by omega) (by omega), show (m + q + 1) * 3 = (m + 1) * 3 + q * 3 by omega] at b0 b1 b2
            have A0 := cell_grown hgx a0
            have A1 := cell_grown hgx a1
            have A2 := cell_grown hgx a2
            have B0 := cell_grown hgx b0
            have B1 := cell_grown hgx b1
            have B2 := cell_grown hgx b2
            clear a0 a1 a2 b0 b1 b2
            have j0 : q + 1 < fs.length - (m + 1) := by omega
            have j1 : (q : Int) + 1 < ((fs.length - (m + 1) : Nat) : Int) := by omega
            have j2 : (0 : Int) ≤ (q : Int) + 1 := by omega
            have j3 : (q : Int) < ((fs.length - (m + 1) : Nat) : Int) := by omega
            have wq : IntKind.i64.wrap (q : Int) = q := wrap_small q (by omega)
            clear hownx
            go_wp2_with fail
            go_quiet_grown (first | (go_at_call 29; refine Calls.grown_of (closure29 _ _ _)))
            have S0 := A0 nq osq
            have S1 := A1 nq osq
            have S2 := A2 nq osq
            clear A0 A1 A2 B0 B1 B2
            have hown3 := HO.out.kept (grownBy_grow wr nq osq) (by simp [Value.ownBlock])
            have HG3 : Hid (w.grownBy (grow (wr.drewN nq) osq) (some g)) := gb_trans HG.out (grownBy_grow wr nq osq) (by simp)
            generalize grow (wr.drewN nq) osq = w3 at hown3 HG3 S0 S1 S2 ⊢
            have hkL : k < L.length := by rw [HN.out]; omega
            have f0 := hown3.frozenAt (k * 3)
            have f1 := hown3.frozenAt (k * 3 + 1)
            have f2 := hown3.frozenAt (k * 3 + 2)
            obtain ⟨d0, d1, d2⟩ := own_cells hown3 k hkL HN.out
            generalize L[k] = old at d0 d1 d2
            have hst := ((((hown3.stored (k * 3) (.int .i64 fs[m + q + 2].1)).1).stored (k * 3 + 1) (.int .i64 fs[m + q + 2].2.1)).1.stored (k * 3 + 2) (.int .i64 fs[m + q + 2].2.2)).1
            rw [flat_set _ _ _ hkL] at hst
            have HST : Hid _ := hst
            have HO3 : Hid (w3.ownsRow B 37 3 (.slice (some ⟨g, 0, none⟩) fs.length cap) fs.length (flat L)) := hown3
            clear hst hown3 hkL
            go_wp2
            · have hne : sameP fs[m + q + 2] fs[m + q + 1] = false := by simpa using ‹(!sameP fs[m + q + 2] fs[m + q + 1]) = true›
              have hC : compF (fs.take (m + (q + 1) + 2)) = compF (fs.take (m + q + 2)) ++ [fs[m + q + 2]] := by
                rw [show m + (q + 1) + 2 = (m + q + 1) + 2 by omega, compF_take fs (m + q + 1) (by omega), hne]; rfl
              go_roundw
              case rel => exact ⟨k + 1, q + 1, L.set k fs[m + q + 2], by go_num, by go_num, by omega, by rw [hC, List.length_append, ← HK.out]; rfl, by omega, by omega, by rw [List.length_set]; exact HN.out, by rw [hC, set_take _ _ _ (by rw [HN.out]; omega), HL.out], fun j h1 h2 hj => by rw [set_far _ _ _ _ h1 (by omega)]; exact HS.out j _ h2 (by omega), HST.out, gb_same (gb_same (gb_same HG3.out _ _) _ _) _ _⟩
              case measure => simp [intOf]; omega
            · have hne : sameP fs[m + q + 2] fs[m + q + 1] = true := by simpa using ‹(!sameP fs[m + q + 2] fs[m + q + 1]) = false›
              have hC : compF (fs.take (m + (q + 1) + 2)) = compF (fs.take (m + q + 2)) := by
                rw [show m + (q + 1) + 2 = (m + q + 1) + 2 by omega, compF_take fs (m + q + 1) (by omega), hne]; simp
              go_roundw
              case rel => exact ⟨k, q + 1, L, rfl, by go_num, by omega, by rw [hC]; exact HK.out, by omega, by omega, HN.out, by rw [hC]; exact HL.out, fun j h1 h2 hj => HS.out j h1 h2 (by omega), HO3.out, HG3.out⟩
              case measure => simp [intOf]; omega
          · obtain ⟨wz, hcl, hoz, hgz⟩ := clear_facts (k := k) hownx (by omega) HN.out
            have j0 : ¬ q + 1 < fs.length - (m + 1) := by omega
            have kc : k < cap := by omega
            have kn : k < fs.length := by omega
            clear hownx
            go_wp2
            go_ret
            have e2 : fs.take (m + q + 2) = fs := List.take_of_length_le (by omega)
            have hk' := HK.out
            have hl' := HL.out
            rw [e2] at hk' hl'
            refine ⟨?_, ?_, gb_trans HG.out hgz (by simp)⟩
            · rw [← hk']; rfl
            · rw [← hk', ← hl']; exact hoz
    · go_wp2
      go_ret
      have e : m + 1 = fs.length := by omega
      have := HC.out
      rw [e, List.take_of_length_le (Nat.le_refl _)] at this
      exact ⟨by rw [this]; rfl, by rw [this]; exact hown', hgrow'.but _⟩

set_option maxHeartbeats 400000 in
theorem compactFunc_short (a : Option Addr) (n cap : Nat) (fv : Value) (w : World) (h : n < 2) :
    Calls Tryz.prog 28 #[.slice a n cap, fv] w fun e w' => e = .returned (.slice a n cap) ∧ w' = w := by
  go_enter Tryz.func28, Tryz.ntmps28
  go_wp2
  go_ret
  exact ⟨rfl, rfl⟩

theorem compactFunc_any (B : Nat) (v : Value) (fs : List F3) (w : World) (hm : fs.length ≤ 4096) (hown : OwnF w B 37 v fs) :
    Calls Tryz.prog 28 #[v, .func (.func 29) #[] #[]] w fun e w' => ∃ v', e = .returned v' ∧ OwnF w' B 37 v' (compF fs) ∧ w.grownBy w' v.ownBlock ∧ v'.ownBlock = v.ownBlock := by
  have hown0 := hown
  rcases hown.2 with ⟨rfl, h0⟩ | ⟨g, cap, cur, rfl, _⟩
  · have : fs = [] := List.eq_nil_of_length_eq_zero h0
    subst this
    exact (compactFunc_short none 0 0 _ w (by omega)).mono fun e w' ⟨he, hw⟩ => ⟨_, he, by subst hw; exact hown0, by subst hw; exact World.grownBy.refl _ _, rfl⟩
  · by_cases h2 : 2 ≤ fs.length
    · exact (compactFunc_long B g cap fs w hm h2 hown0).mono fun e w' ⟨he, ho, hg⟩ => ⟨_, he, ho, hg, rfl⟩
    · exact (compactFunc_short _ _ _ _ w (by omega)).mono fun e w' ⟨he, hw⟩ => ⟨_, he, by subst hw; rw [compF_one fs (by omega)]; exact hown0, by subst hw; exact World.grownBy.refl _ _, rfl⟩
end Go.Proofs.Qxb6614728aGreatDoor
