import Derived.Test.Qxb6614864aDoorAs34
import Derived.Test.Qxb6614864aDoorJoin
namespace Go.Proofs.Qxb6614864aDoor
open Go.RowKit Go.Extern.Stop Go.Stop Go.Extern

/-- The value of errors.errorType. -/
abbrev errT : Value := .iface 95 (.agg #[.pointer (some ⟨4, 32, none⟩)])

theorem grown_fresh {w w1 w2 : World} {k : Nat} (h : w.grownBy w1 none) (hk : w.heap.size ≤ k) (g : w1.grownBy w2 (some k)) : w.grownBy w2 none :=
  ⟨g.os.trans h.os, g.tape.trans h.tape, g.output.trans h.output, Nat.le_trans h.size g.size, fun i hi hn => by
    rw [g.block i (Nat.lt_of_lt_of_le hi h.size) (by intro e; injection e with e; omega), h.block i hi hn]⟩

set_option maxRecDepth 100000 in
set_option maxHeartbeats 4000000 in
/-- Permanent of an error in which a reply is found. -/
theorem perm_found (D : TypeId) (x : Value) (rb : Nat) (c : Int) (s b2 : Bool) (w : World)
    (h1 : w.cell? ⟨rb, 1, none⟩ = some (.int .i64 c)) (h3 : w.cell? ⟨rb, 3, none⟩ = some (.bool s))
    (A1 : ∀ t w2, w.grownBy w2 none → w2.cell? t = some (.pointer none) → w2.frozen? t = false → Calls Tryd.prog 34 #[.iface D x, .iface 65 (.pointer (some t))] w2 fun ev w' => ev = .returned (.bool true) ∧ Hit t ⟨rb, 0, none⟩ w2 w')
    (A2 : ∀ t w2, w.grownBy w2 none → w2.cell? t = some (.pointer none) → w2.frozen? t = false → Calls Tryd.prog 34 #[.iface D x, .iface 66 (.pointer (some t))] w2 fun ev w' => ev = .returned (.bool b2) ∧ w2.grownBy w' (some t.block)) :
    Calls Tryd.prog 25 #[.iface D x] w fun ev w' => ev = .returned (.bool (perm c s || b2)) ∧ w.grownBy w' none := by
  have ltr : rb < w.heap.size := lt_of_cell h1
  have G1 := grown_al (World.grownBy.refl w none) (.cells #[.pointer none] 43)
  have G2 := grown_al G1 (.cells #[.pointer none] 46)
  have C1 := A1 ⟨w.heap.size, 0, none⟩ _ G2 (by simp) (by simp)
  have u2 : ((w.alloc (.cells #[.pointer none] 43)).alloc (.cells #[.pointer none] 46)).cell? ⟨w.heap.size + 1, 0, none⟩ = some (.pointer none) := by simp
  have v2 : ((w.alloc (.cells #[.pointer none] 43)).alloc (.cells #[.pointer none] 46)).frozen? ⟨w.heap.size + 1, 0, none⟩ = false := by simp
  cases hp : perm c s
  · go_enter Tryd.func25, Tryd.ntmps25
    go_wp2_with fail
    refine C1.mono ?_
    rintro ev w3 ⟨rfl, hc, hf, hG⟩
    have G3 := grown_fresh G2 (Nat.le_refl _) hG
    have C2 := permanent28 rb c s w3 (grown_cell G3 h1 (by simp)) (grown_cell G3 h3 (by simp))
    rw [hp] at C2
    have C3 := A2 ⟨w.heap.size + 1, 0, none⟩ w3 G3 (grown_cell hG u2 (by simp)) ((grown_frozen hG u2 (by simp)).trans v2)
    have GG : Hid (w.grownBy w3 none) := G3
    clear hG G3 u2 v2 G1 G2 C1 A1 A2
    go_wp2_with (first
      | (go_at_call 28; refine C2.mono ?_; rintro ev w4 ⟨rfl, rfl⟩)
      | (go_at_call 34; refine C3.mono ?_; rintro ev w4 ⟨rfl, hG4⟩; have G5 := grown_fresh GG.out (Nat.le_succ _) hG4; clear hG4))
    go_ret
    exact ⟨by simp, G5⟩
  · go_enter Tryd.func25, Tryd.ntmps25
    go_wp2_with fail
    refine C1.mono ?_
    rintro ev w3 ⟨rfl, hc, hf, hG⟩
    have G3 := grown_fresh G2 (Nat.le_refl _) hG
    have C2 := permanent28 rb c s w3 (grown_cell G3 h1 (by simp)) (grown_cell G3 h3 (by simp))
    rw [hp] at C2
    have GG : Hid (w.grownBy w3 none) := G3
    clear hG G3 u2 v2 G1 G2 C1 A1 A2
    go_wp2_with (go_at_call 28; refine C2.mono ?_; rintro ev w4 ⟨rfl, rfl⟩)
    go_ret
    exact ⟨by simp, GG.out⟩

set_option maxRecDepth 100000 in
set_option maxHeartbeats 4000000 in
/-- Permanent of an error in which no reply is found. -/
theorem perm_none (v : Value) (b2 : Bool) (w : World)
    (A1 : ∀ t w2, w.grownBy w2 none → w2.cell? t = some (.pointer none) → w2.frozen? t = false → Calls Tryd.prog 34 #[v, .iface 65 (.pointer (some t))] w2 fun ev w' => ev = .returned (.bool false) ∧ w2.grownBy w' none)
    (A2 : ∀ t w2, w.grownBy w2 none → w2.cell? t = some (.pointer none) → w2.frozen? t = false → Calls Tryd.prog 34 #[v, .iface 66 (.pointer (some t))] w2 fun ev w' => ev = .returned (.bool b2) ∧ w2.grownBy w' (some t.block)) :
    Calls Tryd.prog 25 #[v] w fun ev w' => ev = .returned (.bool b2) ∧ w.grownBy w' none := by
  have G1 := grown_al (World.grownBy.refl w none) (.cells #[.pointer none] 43)
  have G2 := grown_al G1 (.cells #[.pointer none] 46)
  have C1 := A1 ⟨w.heap.size, 0, none⟩ _ G2 (by simp) (by simp)
  have u2 : ((w.alloc (.cells #[.pointer none] 43)).alloc (.cells #[.pointer none] 46)).cell? ⟨w.heap.size + 1, 0, none⟩ = some (.pointer none) := by simp
  have v2 : ((w.alloc (.cells #[.pointer none] 43)).alloc (.cells #[.pointer none] 46)).frozen? ⟨w.heap.size + 1, 0, none⟩ = false := by simp
  go_enter Tryd.func25, Tryd.ntmps25
  go_wp2_with fail
  refine C1.mono ?_
  rintro ev w3 ⟨rfl, hG⟩
  have G3 := grown_tr G2 hG
  have C3 := A2 ⟨w.heap.size + 1, 0, none⟩ w3 G3 (grown_cell hG u2 (by simp)) ((grown_frozen hG u2 (by simp)).trans v2)
  have GG : Hid (w.grownBy w3 none) := G3
  clear hG G3 u2 v2 G1 G2 C1 A1 A2
  go_wp2_with (go_at_call 34; refine C3.mono ?_; rintro ev w4 ⟨rfl, hG4⟩; have G5 := grown_fresh GG.out (Nat.le_succ _) hG4; clear hG4)
  go_ret
  exact ⟨rfl, G5⟩
end Go.Proofs.Qxb6614864aDoor
