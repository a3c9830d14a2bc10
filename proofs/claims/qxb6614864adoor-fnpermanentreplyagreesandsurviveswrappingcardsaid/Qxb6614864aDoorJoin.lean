import Derived.Test.Qxb6614864aDoorAs42
import Derived.Deep.RegionHeld
namespace Go.Proofs.Qxb6614864aDoor
open Go.RowKit Go.Extern.Stop Go.Stop Go.Extern

/-- The reply's own answer. -/
abbrev perm (c : Int) (s : Bool) : Bool := !s && decide (500 ≤ c)

theorem permanent28 (b : Nat) (c : Int) (s : Bool) (w : World) (h1 : w.cell? ⟨b, 1, none⟩ = some (.int .i64 c)) (h3 : w.cell? ⟨b, 3, none⟩ = some (.bool s)) :
    Calls Tryd.prog 28 #[.pointer (some ⟨b, 0, none⟩)] w fun e w' => e = .returned (.bool (perm c s)) ∧ w' = w := by
  cases s
  · by_cases hc : 500 ≤ c
    · go_enter Tryd.func28, Tryd.ntmps28
      go_wp2
      go_ret
      exact ⟨by simp [perm, hc], rfl⟩
    · go_enter Tryd.func28, Tryd.ntmps28
      go_wp2
      go_ret
      exact ⟨by simp [perm, hc], rfl⟩
  · go_enter Tryd.func28, Tryd.ntmps28
    go_wp2
    go_ret
    exact ⟨by simp [perm], rfl⟩

theorem zzReply26 (a t : ByteArray) (c : Int) (s : Bool) (w : World) :
    Calls Tryd.prog 26 #[.string a, .int .i64 c, .string t, .bool s] w fun e w' => e = .returned (.pointer (some ⟨w.heap.size, 0, none⟩)) ∧ w' = w.alloc (.cells #[.string a, .int .i64 c, .string t, .bool s] 68) := by
  go_enter Tryd.func26, Tryd.ntmps26
  go_wp2
  go_ret
  exact ⟨rfl, rfl⟩

theorem info32 : (Tryd.prog.info? 32).map (fun i => (i.zero, i.size, i.bytes)) = some (some .nilIface, 1, 16) := by kernel_rfl
theorem grown_of_below {w w' : World} (h : Below w.heap.size w w') : w.grownBy w' none := ⟨h.os, h.tape, h.output, h.size, fun k hk _ => h.block k hk⟩
theorem below_of_grown {w w' : World} (h : w.grownBy w' none) : Below w.heap.size w w' := ⟨h.os, h.tape, h.output, h.size, fun k hk => h.block k hk (by simp)⟩
theorem below_grow4 {w wm w4 : World} {o o' : Obj} (hb : Below w.heap.size w wm) (h : ((wm.alloc o).alloc o').grownBy w4 (some w.heap.size)) : Below w.heap.size w w4 := by
  have hs := hb.size
  exact ((hb.alloc hs o).alloc (by simp; omega) o').grown h (by simp; omega) (fun k hk => by cases hk; exact Nat.le_refl _)
theorem below_grow6 {w w4 w6 : World} {a : Addr} {u : Value} {o : Obj} (hb : Below w.heap.size w w4) (ha : w.heap.size ≤ a.block) (h : ((w4.setCell a u).alloc o).grownBy w6 (some w.heap.size)) : Below w.heap.size w w6 := by
  have hs := hb.size
  exact ((hb.setCell ha u).alloc (by simpa using hs) o).grown h (by simp; omega) (fun k hk => by cases hk; exact Nat.le_refl _)
theorem own_cell {w : World} {B : Nat} {e : TypeId} {g n cap : Nat} {xs : List Value} (h : w.ownsRow B e 1 (.slice (some ⟨g, 0, none⟩) n cap) n xs) (j : Nat) (x : Value) (hx : xs[j]? = some x) : w.cell? ⟨g, j, none⟩ = some x := by
  rcases h.2 with ⟨hv, _⟩ | ⟨g', cap', cur, hv, _, hg, _, _, _, htake⟩
  · cases hv
  · cases hv
    rw [← htake] at hx
    have hj : j < n * 1 := by
      rcases Nat.lt_or_ge j (n * 1) with h | h
      · exact h
      · rw [List.getElem?_eq_none (by simp; omega)] at hx; cases hx
    rw [List.getElem?_take_of_lt hj] at hx
    simpa [World.cell?, hg] using hx
theorem own_set {w : World} {B : Nat} {e : TypeId} {g n cap : Nat} {xs : List Value} (h : w.ownsRow B e 1 (.slice (some ⟨g, 0, none⟩) n cap) n xs) (a : Addr) (u : Value) (hne : g ≠ a.block) : (w.setCell a u).ownsRow B e 1 (.slice (some ⟨g, 0, none⟩) n cap) n xs := by
  refine ⟨h.1, ?_⟩
  rcases h.2 with ⟨hv, _⟩ | ⟨g', cap', cur, hv, hB, hg, r⟩
  · cases hv
  · cases hv
    exact .inr ⟨g, cap, cur, rfl, hB, by rw [Below.heap_setCell _ _ _ _ hne]; exact hg, r⟩
theorem own_lt {w : World} {B : Nat} {e : TypeId} {g n cap : Nat} {xs : List Value} (h : w.ownsRow B e 1 (.slice (some ⟨g, 0, none⟩) n cap) n xs) : g < w.heap.size := by
  rcases h.2 with ⟨hv, _⟩ | ⟨g', cap', cur, hv, hB, hg, r⟩
  · cases hv
  · cases hv
    rcases Nat.lt_or_ge g w.heap.size with h | h
    · exact h
    · rw [Array.getElem?_eq_none h] at hg; cases hg

set_option maxRecDepth 100000 in
set_option maxHeartbeats 4000000 in
/-- errors.Join of 1 error(s) that are not nil. -/
theorem join1 (sb cap : Nat) (T : TypeId) (x : Value) (w : World) (h0 : w.cell? ⟨sb, 0, none⟩ = some (.iface T x)) :
    Calls Tryd.prog 27 #[.slice (some ⟨sb, 0, none⟩) 1 cap] w fun e w' => ∃ jb xb c', e = .returned (.iface 70 (.pointer (some ⟨jb, 0, none⟩))) ∧ w.grownBy w' none ∧ w'.cell? ⟨jb, 0, none⟩ = some (.slice (some ⟨xb, 0, none⟩) 1 c') ∧ w'.cell? ⟨xb, 0, none⟩ = some (.iface T x) := by
  have ltS : sb < w.heap.size := lt_of_cell h0
  obtain ⟨i0, hi, hzz⟩ := Option.map_eq_some_iff.1 info32
  simp only [Prod.mk.injEq] at hzz
  obtain ⟨hz0, hz1, hz2⟩ := hzz
  obtain ⟨wm, hmk, hom, hgm⟩ := run_makeSlice_owned (P := Tryd.prog) w w.heap.size 69 32 i0 .nilIface 1 Tryd.underlying69 hi hz0 hz1 .i64 .i64 1 (by decide) (by rw [hz2]; decide) (by decide) (Nat.le_refl _)
  have hmk' : (Instr.makeSlice 69 (.int .i64 0) (.int .i64 1)).run Tryd.prog w = .ok (.slice (some ⟨w.heap.size, 0, none⟩) 0 1) wm := hmk
  have ltm := own_lt hom
  have c0 := grown_cell hgm h0 (by simp)

  have hb := below_of_grown hgm
  have GB := grown_al (World.grownBy.refl wm none) (.cells #[.slice (some ⟨w.heap.size, 0, none⟩) 0 1] 72)
  have d0 := grown_cell GB c0 (by simp)
  have HO : Hid (wm.ownsRow w.heap.size 32 1 (.slice (some ⟨w.heap.size, 0, none⟩) 0 1) 0 []) := hom
  clear hom hmk hgm
  go_enter Tryd.func27, Tryd.ntmps27
  go_wp2_with fail
  refine wp_loop_rounds 2 ?_
  rw [rounds_succ]
  go_wp2_with fail
  rw [rounds_succ]
  go_wp2_with fail
  refine wp_loop_rounds 2 ?_
  rw [rounds_succ]
  go_wp2_with (at_builtin; refine wpList_append_fits _ rfl (.tmp 38) (.tmp 40) 69 rfl w.heap.size 32 i0 1 Tryd.underlying69 hi hz1 w.heap.size 0 1 _ rfl ((HO.out.alloc _).alloc _) ⟨wm.heap.size + 1, 0, none⟩ 1 1 [.iface T x] rfl rfl (fun j u hj => by match j, hj with | 0, hj => cases hj; simp [Addr.add]) (by simp [Value.oneCell']) (by omega) ?_; intro w4 hown4 hgrow4; have e4 := grown_cell hgrow4 (a := ⟨wm.heap.size, 0, none⟩) (x := .slice (some ⟨w.heap.size, 0, none⟩) 0 1) (by simp) (by simp; omega); have f4 : w4.frozen? ⟨wm.heap.size, 0, none⟩ = false := (grown_frozen hgrow4 (a := ⟨wm.heap.size, 0, none⟩) (x := .slice (some ⟨w.heap.size, 0, none⟩) 0 1) (by simp) (by simp; omega)).trans (by simp); have B4 : Hid (Below w.heap.size w w4) := (below_grow4 hb hgrow4); have O4 : Hid (w4.ownsRow w.heap.size 32 1 (.slice (some ⟨w.heap.size, 0, none⟩) 1 1) 1 [.iface T x]) := hown4;  clear hown4 hgrow4)
  rw [rounds_succ]
  go_wp2_with fail
  go_ret
  exact ⟨_, _, _, rfl, grown_of_below (B4.out.setCell (Nat.le_of_lt ltm) _), World.cell?_setCell_same _ _ _ e4, (World.cell?_setCell_far _ _ _ _ (by show wm.heap.size ≠ w.heap.size; omega)).trans (own_cell O4.out 0 _ rfl)⟩

set_option maxRecDepth 100000 in
set_option maxHeartbeats 4000000 in
/-- errors.Join of 2 error(s) that are not nil. -/
theorem join2 (sb cap : Nat) (T T1 : TypeId) (x x1 : Value) (w : World) (h0 : w.cell? ⟨sb, 0, none⟩ = some (.iface T x)) (h1 : w.cell? ⟨sb, 1, none⟩ = some (.iface T1 x1)) :
    Calls Tryd.prog 27 #[.slice (some ⟨sb, 0, none⟩) 2 cap] w fun e w' => ∃ jb xb c', e = .returned (.iface 70 (.pointer (some ⟨jb, 0, none⟩))) ∧ w.grownBy w' none ∧ w'.cell? ⟨jb, 0, none⟩ = some (.slice (some ⟨xb, 0, none⟩) 2 c') ∧ w'.cell? ⟨xb, 0, none⟩ = some (.iface T x) ∧ w'.cell? ⟨xb, 1, none⟩ = some (.iface T1 x1) := by
  have ltS : sb < w.heap.size := lt_of_cell h0
  obtain ⟨i0, hi, hzz⟩ := Option.map_eq_some_iff.1 info32
  simp only [Prod.mk.injEq] at hzz
  obtain ⟨hz0, hz1, hz2⟩ := hzz
  obtain ⟨wm, hmk, hom, hgm⟩ := run_makeSlice_owned (P := Tryd.prog) w w.heap.size 69 32 i0 .nilIface 1 Tryd.underlying69 hi hz0 hz1 .i64 .i64 2 (by decide) (by rw [hz2]; decide) (by decide) (Nat.le_refl _)
  have hmk' : (Instr.makeSlice 69 (.int .i64 0) (.int .i64 2)).run Tryd.prog w = .ok (.slice (some ⟨w.heap.size, 0, none⟩) 0 2) wm := hmk
  have ltm := own_lt hom
  have c0 := grown_cell hgm h0 (by simp)
  have c1 := grown_cell hgm h1 (by simp)
  have hb := below_of_grown hgm
  have GB := grown_al (World.grownBy.refl wm none) (.cells #[.slice (some ⟨w.heap.size, 0, none⟩) 0 2] 72)
  have d0 := grown_cell GB c0 (by simp)
  have HO : Hid (wm.ownsRow w.heap.size 32 1 (.slice (some ⟨w.heap.size, 0, none⟩) 0 2) 0 []) := hom
  clear hom hmk hgm
  go_enter Tryd.func27, Tryd.ntmps27
  go_wp2_with fail
  refine wp_loop_rounds 3 ?_
  rw [rounds_succ]
  go_wp2_with fail
  rw [rounds_succ]
  go_wp2_with fail
  rw [rounds_succ]
  go_wp2_with fail
  refine wp_loop_rounds 3 ?_
  rw [rounds_succ]
  go_wp2_with (at_builtin; refine wpList_append_fits _ rfl (.tmp 38) (.tmp 40) 69 rfl w.heap.size 32 i0 1 Tryd.underlying69 hi hz1 w.heap.size 0 2 _ rfl ((HO.out.alloc _).alloc _) ⟨wm.heap.size + 1, 0, none⟩ 1 1 [.iface T x] rfl rfl (fun j u hj => by match j, hj with | 0, hj => cases hj; simp [Addr.add]) (by simp [Value.oneCell']) (by omega) ?_; intro w4 hown4 hgrow4; have e4 := grown_cell hgrow4 (a := ⟨wm.heap.size, 0, none⟩) (x := .slice (some ⟨w.heap.size, 0, none⟩) 0 2) (by simp) (by simp; omega); have f4 : w4.frozen? ⟨wm.heap.size, 0, none⟩ = false := (grown_frozen hgrow4 (a := ⟨wm.heap.size, 0, none⟩) (x := .slice (some ⟨w.heap.size, 0, none⟩) 0 2) (by simp) (by simp; omega)).trans (by simp); have B4 : Hid (Below w.heap.size w w4) := (below_grow4 hb hgrow4); have O4 : Hid (w4.ownsRow w.heap.size 32 1 (.slice (some ⟨w.heap.size, 0, none⟩) 1 2) 1 [.iface T x]) := hown4; have s4 : ∀ u, (w4.setCell ⟨wm.heap.size, 0, none⟩ u).cell? ⟨sb, 1, none⟩ = some (.iface T1 x1) := fun u => (World.cell?_setCell_far _ _ _ _ (by show wm.heap.size ≠ sb; omega)).trans (grown_cell hgrow4 (grown_cell (grown_al GB _) c1 (by simp)) (by simp; omega)); clear hown4 hgrow4)
  rw [rounds_succ]
  go_wp2_with (at_builtin; refine wpList_append_fits _ rfl (.tmp 38) (.tmp 40) 69 rfl w.heap.size 32 i0 1 Tryd.underlying69 hi hz1 w.heap.size 1 2 _ rfl ((own_set O4.out ⟨wm.heap.size, 0, none⟩ _ (by show w.heap.size ≠ wm.heap.size; omega)).alloc _) ⟨w4.heap.size, 0, none⟩ 1 1 [.iface T1 x1] rfl rfl (fun j u hj => by match j, hj with | 0, hj => cases hj; exact (World.cell?_alloc_at _ _ _ _ (by simp)).trans rfl) (by simp [Value.oneCell']) (by omega) ?_; intro w6 hown6 hgrow6; have e6 := grown_cell hgrow6 (a := ⟨wm.heap.size, 0, none⟩) (x := .slice (some ⟨w.heap.size, 0, none⟩) 1 2) (grown_cell (grown_al (World.grownBy.refl _ none) _) (World.cell?_setCell_same _ _ _ e4) (by simp)) (by simp; omega); have f6 : w6.frozen? ⟨wm.heap.size, 0, none⟩ = false := (grown_frozen hgrow6 (a := ⟨wm.heap.size, 0, none⟩) (x := .slice (some ⟨w.heap.size, 0, none⟩) 1 2) (grown_cell (grown_al (World.grownBy.refl _ none) _) (World.cell?_setCell_same _ _ _ e4) (by simp)) (by simp; omega)).trans ((grown_frozen (grown_al (World.grownBy.refl _ none) _) (World.cell?_setCell_same _ _ _ e4) (by simp)).trans (by simpa using f4)); have B6 : Hid (Below w.heap.size w w6) := below_grow6 B4.out (Nat.le_of_lt ltm) hgrow6; have O6 : Hid (w6.ownsRow w.heap.size 32 1 (.slice (some ⟨w.heap.size, 0, none⟩) 2 2) 2 [.iface T x, .iface T1 x1]) := hown6; clear hown6 hgrow6)
  rw [rounds_succ]
  go_wp2_with fail
  go_ret
  exact ⟨_, _, _, rfl, grown_of_below (B6.out.setCell (Nat.le_of_lt ltm) _), World.cell?_setCell_same _ _ _ e6, (World.cell?_setCell_far _ _ _ _ (by show wm.heap.size ≠ w.heap.size; omega)).trans (own_cell O6.out 0 _ rfl), (World.cell?_setCell_far _ _ _ _ (by show wm.heap.size ≠ w.heap.size; omega)).trans (own_cell O6.out 1 _ rfl)⟩
end Go.Proofs.Qxb6614864aDoor
