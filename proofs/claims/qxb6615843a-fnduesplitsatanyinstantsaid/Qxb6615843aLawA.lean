import Derived.Test.Qxb6615843aZZ
namespace Go.Proofs.Qxb6615843a
open Go.RowKit Go.Sort

set_option maxRecDepth 100000 in
set_option maxHeartbeats 400000 in
theorem law_out (o p l m t : Int) (x : Nat) (w : World) (h : inI o = false ∨ inI l = false ∨ inI m = false ∨ inI t = false ∨ 1152921504606846976 < p) :
    Calls Try.prog 3 #[.int .i64 o, .float .f64 x, .int .i64 p, .int .i64 l, .int .i64 m, .int .i64 t] w fun e w' => e = .returned (.bool true) ∧ Gr w w' := by
  have I := inInstants4
  cases b0 : inI o
  · go_enter Try.func3, Try.ntmps3
    go_wp2_with (first | (go_at_call 4; refine (I _ _).mono ?_; rintro e w' ⟨rfl, rfl⟩))
    go_ret
    exact ⟨rfl, Gr.refl _⟩
  cases b1 : inI l
  · go_enter Try.func3, Try.ntmps3
    go_wp2_with (first | (go_at_call 4; refine (I _ _).mono ?_; rintro e w' ⟨rfl, rfl⟩))
    go_ret
    exact ⟨rfl, Gr.refl _⟩
  cases b2 : inI m
  · go_enter Try.func3, Try.ntmps3
    go_wp2_with (first | (go_at_call 4; refine (I _ _).mono ?_; rintro e w' ⟨rfl, rfl⟩))
    go_ret
    exact ⟨rfl, Gr.refl _⟩
  cases b3 : inI t
  · go_enter Try.func3, Try.ntmps3
    go_wp2_with (first | (go_at_call 4; refine (I _ _).mono ?_; rintro e w' ⟨rfl, rfl⟩))
    go_ret
    exact ⟨rfl, Gr.refl _⟩
  have b4 : decide (1152921504606846976 < p) = true := by simp; simpa [b0, b1, b2, b3] using h
  clear h
  go_enter Try.func3, Try.ntmps3
  go_wp2_with (first | (go_at_call 4; refine (I _ _).mono ?_; rintro e w' ⟨rfl, rfl⟩))
  go_ret
  exact ⟨rfl, Gr.refl _⟩
end Go.Proofs.Qxb6615843a
