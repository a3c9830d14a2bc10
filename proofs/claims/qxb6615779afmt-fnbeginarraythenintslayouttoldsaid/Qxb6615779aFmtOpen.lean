import Derived.Test.Qxb6615779aFmtLawB
import Derived.Test.Qxb6615779aFmtTie
import Derived.ProofKit
import Derived.OpenShut
import Derived.OpenVars
import Derived.Carry
import Derived.Stop.JoinedAt
import Derived.Stop.Texts
import Derived.Stop.JoinedTold
import Derived.Stop.LaidErr
import Derived.Lib.LaidTab
import Derived.LaidMore
namespace Go.Proofs.Qxb6615779aFmt
open Go.ChangeShapes Go.WideShapes Go.ChangeAt Go.RowKit
open Go.Extern.Stop Go.Stop Go.Extern

theorem own : ownKnob Tryf.prog.godebug = none := by kernel_rfl
theorem laidOut : laidOutB Tryf.prog = true := by kernel_rfl
theorem gPowT : (Tryf.prog.globals[1]?).map (·.type) = some 59 := by kernel_rfl
theorem wf_lo {n : Int} (h : (Lit.int .i64 n).wf = true) : -9223372036854775808 ≤ n := by
  have := h; simp [Lit.wf] at this; have e : IntKind.i64.min = -9223372036854775808 := by decide
  omega
theorem wf_hi {n : Int} (h : (Lit.int .i64 n).wf = true) : n ≤ 9223372036854775807 := by
  have := h; simp [Lit.wf] at this; have e : IntKind.i64.max = 9223372036854775807 := by decide
  omega
/-- What the condition gives a walk: the table. -/
theorem tab_of_laid {W : World} (h : laidMet Tryf.prog Rows.fnBeginArrayThenIntsLayoutRow.laid W) : Lib.TabIs Tryf.prog W powN .u64 Lib.pow10Tab := by
  have h2 : laidMet Tryf.prog ((powN, Lib.tabData .u64 Lib.pow10Tab) :: Rows.fnBeginArrayThenIntsLayoutRow.laid.drop 3) W := h.tail.tail
  exact Lib.tabIs_of_head gPow gPowT Tryf.underlying59 Tryf.underlying40 (by kernel_rfl) (by kernel_rfl) h2

theorem door_met (os : Os) (args : Array Value) : laidMet Tryf.prog Rows.fnBeginArrayThenIntsLayoutRow.laid ((World.doorLaid Tryf.prog 400 os).forCall (fun _ _ => 0) ⟨#[], args, []⟩).memory :=
  laidMet_of_run' 8 (by kernel_rfl) (by kernel_rfl)

/-- The listed variable's name, off the given row. -/
abbrev errN : String := Rows.fnBeginArrayThenIntsLayoutRow.named.headD ""

set_option maxRecDepth 100000 in
theorem lifted (os : Os) (started : os.Started) (H : Type) (enc : TypeId × Value → H) :
    ReturnsInTold none {} Tryf.checked os 3 .any Input.okWide ((OpenSpec.ofChange Rows.fnBeginArrayThenIntsLayoutSpec).preRow enc Tryf.prog Tryf.f3 [] false Rows.fnBeginArrayThenIntsLayoutRow.laid) (fun F => ((OpenSpec.ofChange Rows.fnBeginArrayThenIntsLayoutSpec).at F).post enc Tryf.prog Tryf.f3 false true false false) (aloneAtReturn Tryf.prog) nothingAlways := by
  refine returnsInTold_of_row (C := Tryf.checked) (s := OpenSpec.ofChange Rows.fnBeginArrayThenIntsLayoutSpec) (by kernel_rfl) own started (by kernel_rfl) Tryf.func3
    (OpenSpec.witness_stopped_at (enc := enc) (C := Tryf.checked) false (World.doorLaid Tryf.prog 400 os) #[.bool false, .slice none 0 0] rfl (by kernel_rfl) (by kernel_rfl) (by kernel_rfl)
      (OpenSpec.preRow_of_B rfl 8 (by kernel_rfl) (by kernel_rfl) (door_met os _))) ?_
  intro F W base args ds gs before _ hF hval0 hW _ _ _ hL _
  have hval : ∀ (j : Nat) t v, Tryf.f3.params[j]? = some t → args[j]? = some v → Value.okWide Tryf.prog W .any base t v := hval0
  have hW' := hW
  obtain ⟨p, q, hA0, hV0, rfl, hfz, hnd⟩ := hW
  have hA : DataW.TrodAll enc Tryf.prog W 0 (fun _ => true) true Tryf.f3.params.toList args.toList ds p := hA0
  have hV : DataW.TrodVars enc Tryf.prog W (fun _ => true) [errN] gs q := hV0
  rw [Tryf.params3] at hA hval
  obtain ⟨v0, vs0, d0, ds0, p0, q0, hargs, rfl, rfl, h0, r0⟩ := trodAll_cons hA
  obtain ⟨v1, vs1, d1, ds1, p1, q1, rfl, rfl, rfl, h1, r1⟩ := trodAll_cons r0
  obtain ⟨rfl, rfl, rfl⟩ := trodAll_nil r1
  obtain rfl : args = #[v0, v1] := by cases args; simp_all
  obtain ⟨a0, rfl, rfl, rfl⟩ := open_bool Tryf.underlying4 (hval 0 4 v0 rfl rfl) h0
  obtain ⟨a1, len1, cap1, rfl⟩ := okWide_slice Tryf.underlying22 (hval 1 22 v1 rfl rfl)
  have lt1 : ∀ x ∈ p1, x.block < W.heap.size := by obtain ⟨m, hm⟩ := h1; exact DataW.trod_lt m _ _ _ hm
  obtain ⟨zs, rfl, hI, hzr⟩ : ∃ zs : List Int, zs.length = len1 ∧ IntsAt W a1 zs ∧ ∀ z ∈ zs, -9223372036854775808 ≤ z ∧ z ≤ 9223372036854775807 := by
    obtain ⟨fuel, hf⟩ := h1
    rcases open_ints Tryf.underlying22 Tryf.underlying3 (by kernel_rfl) hf with ⟨hcs, _⟩ | ⟨x, l, c, zs, hcs, _, hl, hm, hz, _, hcell, hwz⟩
    · simp [Value.cells] at hcs
      obtain ⟨rfl, rfl, rfl⟩ := hcs
      exact ⟨[], rfl, .inl rfl, fun z hz => by cases hz⟩
    · simp [Value.cells] at hcs
      obtain ⟨rfl, rfl, rfl⟩ := hcs
      simp only [if_true] at hz
      have hlen : (zs.take len1).length = len1 := by simp; omega
      refine ⟨zs.take len1, hlen, ?_, fun z hz' => ?_⟩
      · by_cases h0 : len1 = 0
        · exact .inl (by rw [h0]; rfl)
        · obtain ⟨b, off, rfl, hc⟩ := ints_at hcell (by omega)
          refine .inr ⟨b, off, rfl, World.block_lt_of_cell? W _ (hc 0 (by omega)), fun j hj => ?_⟩
          rw [hlen] at hj
          rw [hc j (by omega)]
          simp [List.getD_eq_getElem?_getD, List.getElem?_take_of_lt hj]
      · have hw := hwz z (List.mem_of_mem_take hz')
        exact ⟨wf_lo hw, wf_hi hw⟩
  have hT := tab_of_laid hL
  have hg1 : 1 < W.heap.size := by
    have h := hT
    unfold Lib.TabIs World.var? at h
    rw [gPow] at h
    rcases Nat.lt_or_ge 1 W.heap.size with h' | h'
    · exact h'
    · simp [Array.getElem?_eq_none h'] at h
  clear hA0 hval0
  refine (law_any a0 a1 cap1 zs W hI hzr hT hg1).mono fun e W' ⟨he, bel⟩ => ?_
  subst he
  have hv' := Below.trodVars laidOut bel (by kernel_rfl) hV
  obtain ⟨gn, gt, cs, fuel, dg, p', rfl, -, -, -, -, rfl⟩ := trodVars_one hV
  exact ⟨_, rfl, _, _, _, [], _, _, hW', trodAll_mk1 (shut_bool Tryf.underlying4 _), (trodAll_cons_mk (shut_bool Tryf.underlying4 _) (trodAll_cons_mk (Below.trod laidOut (by kernel_rfl) (of_decide_eq_true (by kernel_rfl)) h1 bel lt1) trodAll_mk0)), hv', bel.frame _, fun h => by cases h⟩
end Go.Proofs.Qxb6615779aFmt
