import Derived.Test.Qxb6615779aFmtLaw
namespace Go.Proofs.Qxb6615779aFmt
open Go.RowKit Go.Shelf

set_option maxRecDepth 100000 in
set_option maxHeartbeats 2000000 in
theorem law_any (cp : Bool) (a0 : Option Addr) (cap0 : Nat) (zs : List Int) (w : World) (hI : IntsAt w a0 zs) (hz : ∀ z ∈ zs, -9223372036854775808 ≤ z ∧ z ≤ 9223372036854775807) (ht : Lib.TabIs Tryf.prog w powN .u64 Lib.pow10Tab) (hg1 : 1 < w.heap.size) :
    Calls Tryf.prog 3 #[.bool cp, .slice a0 zs.length cap0] w fun e w' => e = .returned (.bool true) ∧ Below w.heap.size w w' := by
  obtain ⟨b, hb⟩ := bytes4 cp a0 zs.length cap0 w
  cases b
  · go_enter Tryf.func3, Tryf.ntmps3
    go_wp2_with (go_at_call 4; refine hb.mono ?_; rintro e w' ⟨rfl, rfl⟩)
    go_ret
    exact ⟨rfl, Below.refl _ _⟩
  · by_cases q1 : (65536 : Int) < (zs.length : Int)
    · go_enter Tryf.func3, Tryf.ntmps3
      go_wp2_with (go_at_call 4; refine hb.mono ?_; rintro e w' ⟨rfl, rfl⟩)
      go_ret
      exact ⟨rfl, Below.refl _ _⟩
    exact law_main cp a0 cap0 zs w hI (by omega) hz ht hg1 hb
end Go.Proofs.Qxb6615779aFmt
