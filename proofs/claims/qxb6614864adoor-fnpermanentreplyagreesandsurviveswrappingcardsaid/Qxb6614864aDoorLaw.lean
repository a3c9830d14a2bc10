import Derived.Test.Qxb6614864aDoorZZ
namespace Go.Proofs.Qxb6614864aDoor
open Go.RowKit Go.Extern.Stop Go.Stop Go.Extern

theorem wrap_small {z : Int} (h : z < 1000000000) (h0 : 0 ≤ z) : IntKind.i64.wrap z = z := by
  rw [IntKind.wrap_i64]; omega

set_option maxHeartbeats 1000000 in
theorem bytes7 (a t : ByteArray) (c : Int) (s : Bool) (w : World) :
    ∃ b, Calls Tryd.prog 7 #[.string a, .int .i64 c, .string t, .bool s] w fun e w' => e = .returned (.bool b) ∧ w' = w := by
  by_cases h1 : (1048576 : Int) < a.size
  · refine ⟨false, ?_⟩
    go_enter Tryd.func7, Tryd.ntmps7
    go_wp2
    go_ret
    exact ⟨rfl, rfl⟩
  · have e1 : IntKind.i64.wrap (a.size : Int) = a.size := wrap_small (by omega) (by omega)
    by_cases h2 : (1048576 : Int) < t.size
    · refine ⟨false, ?_⟩
      go_enter Tryd.func7, Tryd.ntmps7
      go_wp2
      go_ret
      exact ⟨rfl, rfl⟩
    · have e2 : IntKind.i64.wrap ((a.size : Int) + t.size) = a.size + t.size := wrap_small (by omega) (by omega)
      by_cases h3 : (1048576 : Int) < (a.size : Int) + t.size
      · refine ⟨false, ?_⟩
        go_enter Tryd.func7, Tryd.ntmps7
        go_wp2
        go_ret
        exact ⟨rfl, rfl⟩
      · refine ⟨true, ?_⟩
        go_enter Tryd.func7, Tryd.ntmps7
        go_wp2
        go_ret
        exact ⟨rfl, rfl⟩

/-- What the law gives. -/
abbrev Q (w : World) : Ending → World → Prop := fun e w' => e = .returned (.bool true) ∧ w.grownBy w' none

set_option maxRecDepth 100000 in
set_option maxHeartbeats 4000000 in
theorem law3_main (a t : ByteArray) (c : Int) (s : Bool) (w : World) (hg : w.cell? ⟨1, 0, none⟩ = some errT) (q1 : ¬ (524288 : Int) < a.size) (q2 : ¬ (524288 : Int) < t.size) (q3 : ¬ c < 100) (q4 : ¬ 999 < c)
    (hb : Calls Tryd.prog 7 #[.string a, .int .i64 c, .string t, .bool s] w fun e w' => e = .returned (.bool true) ∧ w' = w) :
    Calls Tryd.prog 3 #[.string a, .int .i64 c, .string t, .bool s] w (Q w) := by
  have C8 := zz8 a t c s w hg
  have C9 := fun w2 (G : w.grownBy w2 none) => zz9 a t c s w2 (grown_cell G hg (by simp))
  have C10 := fun w2 => zz10 a t c s w2
  cases s
  · by_cases hc : 500 ≤ c
    · have hp : perm c false = true := by simp [perm, hc]
      rw [hp] at C8
      simp only [hp] at C9 C10
      go_enter Tryd.func3, Tryd.ntmps3
      go_wp2_with (first
        | (go_at_call 7; refine hb.mono ?_; rintro e w' ⟨rfl, rfl⟩)
        | (go_at_call 8; refine C8.mono ?_; rintro e w2 ⟨rfl, G2⟩)
        | (go_at_call 9; refine (C9 _ G2).mono ?_; rintro e w3 ⟨rfl, G3⟩)
        | (go_at_call 10; refine (C10 _).mono ?_; rintro e w4 ⟨rfl, G4⟩))
      go_ret
      exact ⟨rfl, grown_tr (grown_tr G2 G3) G4⟩
    · have hp : perm c false = false := by simp [perm, hc]
      have hc' : c < 500 := by omega
      rw [hp] at C8
      simp only [hp] at C9 C10
      go_enter Tryd.func3, Tryd.ntmps3
      go_wp2_with (first
        | (go_at_call 7; refine hb.mono ?_; rintro e w' ⟨rfl, rfl⟩)
        | (go_at_call 8; refine C8.mono ?_; rintro e w2 ⟨rfl, G2⟩)
        | (go_at_call 9; refine (C9 _ G2).mono ?_; rintro e w3 ⟨rfl, G3⟩)
        | (go_at_call 10; refine (C10 _).mono ?_; rintro e w4 ⟨rfl, G4⟩))
      go_ret
      exact ⟨by show Ending.returned (.bool (!decide (500 ≤ c))) = _; simp [hc], grown_tr (grown_tr G2 G3) G4⟩
  · have hp : perm c true = false := by simp [perm]
    rw [hp] at C8
    simp only [hp] at C9 C10
    go_enter Tryd.func3, Tryd.ntmps3
    go_wp2_with (first
      | (go_at_call 7; refine hb.mono ?_; rintro e w' ⟨rfl, rfl⟩)
      | (go_at_call 8; refine C8.mono ?_; rintro e w2 ⟨rfl, G2⟩)
      | (go_at_call 9; refine (C9 _ G2).mono ?_; rintro e w3 ⟨rfl, G3⟩)
      | (go_at_call 10; refine (C10 _).mono ?_; rintro e w4 ⟨rfl, G4⟩))
    go_ret
    exact ⟨rfl, grown_tr (grown_tr G2 G3) G4⟩

set_option maxRecDepth 100000 in
set_option maxHeartbeats 4000000 in
theorem law3_any (a t : ByteArray) (c : Int) (s : Bool) (w : World) (hg : w.cell? ⟨1, 0, none⟩ = some errT) :
    Calls Tryd.prog 3 #[.string a, .int .i64 c, .string t, .bool s] w (Q w) := by
  obtain ⟨b, hb⟩ := bytes7 a t c s w
  cases b
  · go_enter Tryd.func3, Tryd.ntmps3
    go_wp2_with (go_at_call 7; refine hb.mono ?_; rintro e w' ⟨rfl, rfl⟩)
    go_ret
    exact ⟨rfl, World.grownBy.refl _ _⟩
  · by_cases q1 : (524288 : Int) < a.size
    · go_enter Tryd.func3, Tryd.ntmps3
      go_wp2_with (go_at_call 7; refine hb.mono ?_; rintro e w' ⟨rfl, rfl⟩)
      go_ret
      exact ⟨rfl, World.grownBy.refl _ _⟩
    by_cases q2 : (524288 : Int) < t.size
    · go_enter Tryd.func3, Tryd.ntmps3
      go_wp2_with (go_at_call 7; refine hb.mono ?_; rintro e w' ⟨rfl, rfl⟩)
      go_ret
      exact ⟨rfl, World.grownBy.refl _ _⟩
    by_cases q3 : c < 100
    · go_enter Tryd.func3, Tryd.ntmps3
      go_wp2_with (go_at_call 7; refine hb.mono ?_; rintro e w' ⟨rfl, rfl⟩)
      go_ret
      exact ⟨rfl, World.grownBy.refl _ _⟩
    by_cases q4 : 999 < c
    · go_enter Tryd.func3, Tryd.ntmps3
      go_wp2_with (go_at_call 7; refine hb.mono ?_; rintro e w' ⟨rfl, rfl⟩)
      go_ret
      exact ⟨rfl, World.grownBy.refl _ _⟩
    exact law3_main a t c s w hg q1 q2 q3 q4 hb

set_option maxHeartbeats 1000000 in
theorem bytes11 (a t p q : ByteArray) (c : Int) (s : Bool) (w : World) :
    ∃ b, Calls Tryd.prog 11 #[.string a, .int .i64 c, .string t, .bool s, .string p, .string q] w fun e w' => e = .returned (.bool b) ∧ w' = w := by
  by_cases h0 : (1048576 : Int) < a.size
  ·
    refine ⟨false, ?_⟩
    go_enter Tryd.func11, Tryd.ntmps11
    go_wp2
    go_ret
    exact ⟨rfl, rfl⟩
  have e0 : IntKind.i64.wrap (a.size : Int) = (a.size : Int) := wrap_small (by omega) (by omega)
  by_cases h1 : (1048576 : Int) < t.size
  ·
    refine ⟨false, ?_⟩
    go_enter Tryd.func11, Tryd.ntmps11
    go_wp2
    go_ret
    exact ⟨rfl, rfl⟩
  have e1 : IntKind.i64.wrap ((a.size : Int) + t.size) = (a.size : Int) + t.size := wrap_small (by omega) (by omega)
  by_cases k1 : (1048576 : Int) < (a.size : Int) + t.size
  ·
    refine ⟨false, ?_⟩
    go_enter Tryd.func11, Tryd.ntmps11
    go_wp2
    go_ret
    exact ⟨rfl, rfl⟩
  by_cases h2 : (1048576 : Int) < p.size
  ·
    refine ⟨false, ?_⟩
    go_enter Tryd.func11, Tryd.ntmps11
    go_wp2
    go_ret
    exact ⟨rfl, rfl⟩
  have e2 : IntKind.i64.wrap ((a.size : Int) + t.size + p.size) = (a.size : Int) + t.size + p.size := wrap_small (by omega) (by omega)
  by_cases k2 : (1048576 : Int) < (a.size : Int) + t.size + p.size
  ·
    refine ⟨false, ?_⟩
    go_enter Tryd.func11, Tryd.ntmps11
    go_wp2
    go_ret
    exact ⟨rfl, rfl⟩
  by_cases h3 : (1048576 : Int) < q.size
  ·
    refine ⟨false, ?_⟩
    go_enter Tryd.func11, Tryd.ntmps11
    go_wp2
    go_ret
    exact ⟨rfl, rfl⟩
  have e3 : IntKind.i64.wrap ((a.size : Int) + t.size + p.size + q.size) = (a.size : Int) + t.size + p.size + q.size := wrap_small (by omega) (by omega)
  by_cases k3 : (1048576 : Int) < (a.size : Int) + t.size + p.size + q.size
  ·
    refine ⟨false, ?_⟩
    go_enter Tryd.func11, Tryd.ntmps11
    go_wp2
    go_ret
    exact ⟨rfl, rfl⟩
  refine ⟨true, ?_⟩
  go_enter Tryd.func11, Tryd.ntmps11
  go_wp2
  go_ret
  exact ⟨rfl, rfl⟩

set_option maxRecDepth 100000 in
set_option maxHeartbeats 4000000 in
theorem law4_any (a t p q : ByteArray) (c : Int) (s : Bool) (w : World) (hg : w.cell? ⟨1, 0, none⟩ = some errT) :
    Calls Tryd.prog 4 #[.string a, .int .i64 c, .string t, .bool s, .string p, .string q] w (Q w) := by
  obtain ⟨b, hb⟩ := bytes11 a t p q c s w
  cases b
  · go_enter Tryd.func4, Tryd.ntmps4
    go_wp2_with (go_at_call 11; refine hb.mono ?_; rintro e w' ⟨rfl, rfl⟩)
    go_ret
    exact ⟨rfl, World.grownBy.refl _ _⟩
  · by_cases q1 : (262144 : Int) < a.size
    · go_enter Tryd.func4, Tryd.ntmps4
      go_wp2_with (go_at_call 11; refine hb.mono ?_; rintro e w' ⟨rfl, rfl⟩)
      go_ret
      exact ⟨rfl, World.grownBy.refl _ _⟩
    by_cases q2 : (262144 : Int) < t.size
    · go_enter Tryd.func4, Tryd.ntmps4
      go_wp2_with (go_at_call 11; refine hb.mono ?_; rintro e w' ⟨rfl, rfl⟩)
      go_ret
      exact ⟨rfl, World.grownBy.refl _ _⟩
    by_cases q3 : (262144 : Int) < p.size
    · go_enter Tryd.func4, Tryd.ntmps4
      go_wp2_with (go_at_call 11; refine hb.mono ?_; rintro e w' ⟨rfl, rfl⟩)
      go_ret
      exact ⟨rfl, World.grownBy.refl _ _⟩
    by_cases q4 : (262144 : Int) < q.size
    · go_enter Tryd.func4, Tryd.ntmps4
      go_wp2_with (go_at_call 11; refine hb.mono ?_; rintro e w' ⟨rfl, rfl⟩)
      go_ret
      exact ⟨rfl, World.grownBy.refl _ _⟩
    by_cases q5 : c < 100
    · go_enter Tryd.func4, Tryd.ntmps4
      go_wp2_with (go_at_call 11; refine hb.mono ?_; rintro e w' ⟨rfl, rfl⟩)
      go_ret
      exact ⟨rfl, World.grownBy.refl _ _⟩
    by_cases q6 : 999 < c
    · go_enter Tryd.func4, Tryd.ntmps4
      go_wp2_with (go_at_call 11; refine hb.mono ?_; rintro e w' ⟨rfl, rfl⟩)
      go_ret
      exact ⟨rfl, World.grownBy.refl _ _⟩
    have C12 := zz12 p q w hg
    have C13 := fun w2 (G : w.grownBy w2 none) => zz13 a t p q c s w2 (grown_cell G hg (by simp))
    have C14 := fun w2 (G : w.grownBy w2 none) => zz14 a t p q c s w2 (grown_cell G hg (by simp))
    have C15 := fun w2 => zz15 w2
    go_enter Tryd.func4, Tryd.ntmps4
    go_wp2_with (first
      | (go_at_call 11; refine hb.mono ?_; rintro e w' ⟨rfl, rfl⟩)
      | (go_at_call 12; refine C12.mono ?_; rintro e w2 ⟨rfl, G2⟩)
      | (go_at_call 13; refine (C13 _ G2).mono ?_; rintro e w3 ⟨rfl, G3⟩; have G23 := grown_tr G2 G3)
      | (go_at_call 14; refine (C14 _ G23).mono ?_; rintro e w4 ⟨rfl, G4⟩; have G234 := grown_tr G23 G4)
      | (go_at_call 15; refine (C15 _).mono ?_; rintro e w5 ⟨rfl, G5⟩; have G2345 := grown_tr G234 G5))
    go_ret
    exact ⟨rfl, G2345⟩
end Go.Proofs.Qxb6614864aDoor
