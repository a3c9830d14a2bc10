import Derived.Test.Qxb6614728aGreatDoorOpen
import Derived.Test.Qxb6614728aGreatDoorLawB
import Derived.Test.Qxb6614728aGreatDoorCards
import Derived.SevenTiedAt
namespace Go.Proofs.Qxb6614728aGreatDoor
open Go.ChangeShapes Go.WideShapes Go.ChangeAt Go.RowKit

abbrev edgeTB : TypeId := 121
theorem gEdgeTypeB : (Tryz.prog.globals[0]?).map (·.type) = some edgeTB := by kernel_rfl
/-- The door's own heap meets the condition. -/
theorem door_metB (os : Os) (args : Array Value) : laidMetH Tryz.prog Rows.fnRecutShallowIgnoresOrderAndIsIdempotentRow.laid ((World.doorLaid Tryz.prog 400 os).forCall (fun _ _ => 0) ⟨#[], args, []⟩).memory :=
  laidMetH_of_parts3 (fuel := 8) (laidMet_of_run' 8 (by kernel_rfl) (by kernel_rfl)) (by kernel_rfl) (by kernel_rfl)

theorem law4_all (g d : Int) (q : Bool) (a1 a2 a3 : Option Addr) (c1 c2 c3 : Nat) (zs : List Int) (fs : List F3) (ps : List Int) (w : World) (m1 : zs.length ≤ maxLen) (m2 : fs.length ≤ maxLen) (m3 : ps.length ≤ maxLen)
    (hz : IntsAt w a1 zs) (hF : ArgF w a2 fs.length c2 fs) (hP : ArgP w a3 ps.length c3 ps) :
    Calls Tryz.prog 4 #[.int .i64 g, .slice a1 zs.length c1, .bool q, .slice a2 fs.length c2, .slice a3 ps.length c3, .int .i64 d] w fun e w' => e = .returned (.bool true) ∧ Below w.heap.size w w' := by
  by_cases hb : zs.length ≤ 4096 ∧ fs.length ≤ 4096 ∧ ps.length ≤ 4096
  · exact law4_main g d q a1 a2 a3 c1 c2 c3 zs fs ps w hb.1 hb.2.1 hb.2.2 hz hF hP
  · exact (law4_big g d q a1 a2 a3 _ _ _ c1 c2 c3 w m1 m2 m3 hb).mono fun e w' ⟨he, hw⟩ => ⟨he, by rw [hw]; exact Below.refl _ _⟩

set_option maxRecDepth 100000 in
theorem liftedB (os : Os) (started : os.Started) (H : Type) (enc : TypeId × Value → H) :
    ReturnsInHanded {} Tryz.checked os 4 .any (fun w args => (Rows.fnRecutShallowIgnoresOrderAndIsIdempotentSpec.pre enc Tryz.prog Tryz.f4 [] false w args ∧ laidMetH Tryz.prog Rows.fnRecutShallowIgnoresOrderAndIsIdempotentRow.laid w) ∧ sizedMet enc Tryz.prog Tryz.f4 (OpenSpec.ofChange Rows.fnRecutShallowIgnoresOrderAndIsIdempotentSpec) false w args)
      (Rows.fnRecutShallowIgnoresOrderAndIsIdempotentSpec.post enc Tryz.prog Tryz.f4 false true false false) := by
  refine returnsInHanded_of_change_and (C := Tryz.checked) (X := fun w _ => laidMetH Tryz.prog Rows.fnRecutShallowIgnoresOrderAndIsIdempotentRow.laid w) (fun _ _ _ hh h => h.of_heap hh) own started (by kernel_rfl) Tryz.func4
    (ChangeSpec.witness_shaped (enc := enc) (C := Tryz.checked) (os := os) (X := fun w _ => laidMetH Tryz.prog Rows.fnRecutShallowIgnoresOrderAndIsIdempotentRow.laid w) false (World.doorLaid Tryz.prog 400 os) #[.int .i64 0, .slice none 0 0, .bool false, .slice none 0 0, .slice none 0 0, .int .i64 0] 8 rfl (World.shaped_of_RefB (by kernel_rfl) (by kernel_rfl)) (by kernel_rfl) (by kernel_rfl) (by kernel_rfl) (door_metB os _)) ?_
  intro W base args ds gs before hval0 hW _ _ hL _
  clear hL
  have hval : ∀ (j : Nat) t v, Tryz.f4.params[j]? = some t → args[j]? = some v → Value.okWide Tryz.prog W .any base t v := hval0
  have hW' := hW
  obtain ⟨p, q, hA0, hV0, rfl, hfz, hnd⟩ := hW
  have hA : DataW.TrodAll enc Tryz.prog W 0 (fun _ => true) true Tryz.f4.params.toList args.toList ds p := hA0
  have hV : DataW.TrodVars enc Tryz.prog W (fun _ => true) [edgeN] gs q := hV0
  rw [Tryz.params4] at hA hval
  obtain ⟨v0, vs0, d0, ds0, p0, q0, hargs, rfl, rfl, h0, r0⟩ := trodAll_cons hA
  obtain ⟨v1, vs1, d1, ds1, p1, q1, rfl, rfl, rfl, h1, r1⟩ := trodAll_cons r0
  obtain ⟨v2, vs2, d2, ds2, p2, q2, rfl, rfl, rfl, h2, r2⟩ := trodAll_cons r1
  obtain ⟨v3, vs3, d3, ds3, p3, q3, rfl, rfl, rfl, h3, r3⟩ := trodAll_cons r2
  obtain ⟨v4, vs4, d4, ds4, p4, q4, rfl, rfl, rfl, h4, r4⟩ := trodAll_cons r3
  obtain ⟨v5, vs5, d5, ds5, p5, q5, rfl, rfl, rfl, h5, r5⟩ := trodAll_cons r4
  obtain ⟨rfl, rfl, rfl⟩ := trodAll_nil r5
  obtain rfl : args = #[v0, v1, v2, v3, v4, v5] := by cases args; simp_all
  obtain ⟨gn, gt, cs, fuel, dg, p', rfl, hg, ht, hvar, hd, rfl⟩ := trodVars_one hV
  obtain rfl := Option.some.inj (gEdge.symm.trans hg)
  obtain ⟨a0, rfl, rfl, rfl, w0⟩ := open_int Tryz.underlying3 (hval 0 3 v0 rfl rfl) h0
  obtain ⟨a1, len1, cap1, rfl⟩ := okWide_slice Tryz.underlying22 (hval 1 22 v1 rfl rfl)
  obtain ⟨a2, rfl, rfl, rfl⟩ := open_bool Tryz.underlying4 (hval 2 4 v2 rfl rfl) h2
  obtain ⟨a3, len3, cap3, rfl⟩ := okWide_slice Tryz.underlying23 (hval 3 23 v3 rfl rfl)
  obtain ⟨a4, len4, cap4, rfl⟩ := okWide_slice Tryz.underlying22 (hval 4 22 v4 rfl rfl)
  obtain ⟨a5, rfl, rfl, rfl, w5⟩ := open_int Tryz.underlying3 (hval 5 3 v5 rfl rfl) h5
  have lt1 : ∀ x ∈ p1, x.block < W.heap.size := by obtain ⟨m, hm⟩ := h1; exact DataW.trod_lt m _ _ _ hm
  have lt3 : ∀ x ∈ p3, x.block < W.heap.size := by obtain ⟨m, hm⟩ := h3; exact DataW.trod_lt m _ _ _ hm
  have lt4 : ∀ x ∈ p4, x.block < W.heap.size := by obtain ⟨m, hm⟩ := h4; exact DataW.trod_lt m _ _ _ hm
  obtain ⟨zs, rfl, hI, _, m1⟩ : ∃ zs : List Int, zs.length = len1 ∧ IntsAt W a1 zs ∧ ArgP W a1 len1 cap1 zs ∧ len1 ≤ maxLen := by
    obtain ⟨m, hm⟩ := h1; exact open_txns hm
  obtain ⟨fs, rfl, hF, m3⟩ : ∃ fs : List F3, fs.length = len3 ∧ ArgF W a3 len3 cap3 fs ∧ len3 ≤ maxLen := by
    obtain ⟨m, hm⟩ := h3; exact open_facts hm
  obtain ⟨ps, rfl, _, hP, m4⟩ : ∃ zs : List Int, zs.length = len4 ∧ IntsAt W a4 zs ∧ ArgP W a4 len4 cap4 zs ∧ len4 ≤ maxLen := by
    obtain ⟨m, hm⟩ := h4; exact open_txns hm
  clear hA0 hval0 hV0
  refine (law4_all a0 a5 a2 a1 a3 a4 cap1 cap3 cap4 zs fs ps W m1 m3 m4 hI hF hP).mono fun e W' ⟨he, bel⟩ => ?_
  subst he
  have hg0 : 0 < W.heap.size := by
    unfold World.var? at hvar
    simp only [gEdge, Option.bind_some] at hvar
    rcases Nat.lt_or_ge 0 W.heap.size with h | h
    · exact h
    · rw [Array.getElem?_eq_none h] at hvar; simp at hvar
  obtain rfl := Option.some.inj (gEdgeTypeB.symm.trans ht)
  have ltg : ∀ x ∈ p', x.block < W.heap.size := DataW.trod_lt fuel _ _ _ hd
  obtain ⟨fuel', hd'⟩ : DataW.Trod enc Tryz.prog W' 0 (fun b => decide (b < W.heap.size)) true edgeTB (.agg cs) dg p' :=
    Below.trod laidOut (by kernel_rfl) (of_decide_eq_true (by kernel_rfl)) ⟨fuel, hd⟩ bel ltg
  have hv' := trodVars_mk1 (enc := enc) (spare := fun b => decide (b < W.heap.size)) gEdge gEdgeTypeB (var?_below bel gEdge hg0 hvar) hd'
  exact ⟨_, rfl, _, _, _, [], _, _, hW', trodAll_mk1 (shut_bool Tryz.underlying4 _), (trodAll_cons_mk (shut_int Tryz.underlying3 w0) (trodAll_cons_mk (Below.trod laidOut (by kernel_rfl) (of_decide_eq_true (by kernel_rfl)) h1 bel lt1) (trodAll_cons_mk (shut_bool Tryz.underlying4 _) (trodAll_cons_mk (Below.trod laidOut (by kernel_rfl) (of_decide_eq_true (by kernel_rfl)) h3 bel lt3) (trodAll_cons_mk (Below.trod laidOut (by kernel_rfl) (of_decide_eq_true (by kernel_rfl)) h4 bel lt4) (trodAll_cons_mk (shut_int Tryz.underlying3 w5) trodAll_mk0)))))), hv', bel.frame _, fun h => by cases h⟩

theorem rowB_holds : Rows.FnRecutShallowIgnoresOrderAndIsIdempotentSaid :=
  OpenClaim.holds_of_wide 4 Tryz.f4 rfl rfl rfl rfl rfl rfl rfl ⟨rfl, rfl, rfl, rfl, rfl⟩ rfl rfl rfl rfl rfl (by kernel_rfl) Tryz.func4 (by kernel_rfl)
    (of_decide_eq_true (by kernel_rfl)) (by unfold Func.isWrapper; first | (rw [if_pos (by decide +kernel)]; kernel_rfl) | (rw [if_neg (by decide +kernel)]; exact ⟨rfl, rfl⟩))
    (fun os started H enc _ => liftedB os started H enc)

theorem cardB_holds : Rows.FnRecutShallowIgnoresOrderAndIsIdempotentCardSaid :=
  Claim7.holds_tied_plain_at .later [] [.data] true (true, "734a91cd9a008141d89d4262bc65ae01e2a3708c04b00f4ab306a7a8bedb347d") false
    rowB_holds (fun _ h => by cases h) (by kernel_rfl) (fun _ h => by cases h) fnRecutShallowIgnoresOrderAndIsIdempotent_row_tie rfl ⟨rfl, rfl⟩ (by kernel_rfl) rfl
    (fun f fn hf hfn => by
      obtain rfl : f = 4 := Option.some.inj ((show Tryz.prog.funcNamed Tryz.f4.name = some 4 by kernel_rfl).symm.trans hf) |>.symm
      obtain rfl : fn = Tryz.f4 := (Option.some.inj (Tryz.func4.symm.trans hfn)).symm
      exact ⟨by kernel_rfl, fun j t ht => by
        rw [Tryz.params4] at ht
        have hm : t ∈ [3, 22, 4, 23, 22, 3] := by simpa using Array.mem_of_getElem? ht
        have hall : ([3, 22, 4, 23, 22, 3].all fun u => !Tryz.prog.wantsStandIn u) = true := by kernel_rfl
        exact (show Tryz.prog.wantsStandIn t = false by simpa using List.all_eq_true.1 hall t hm)⟩)
    (by kernel_rfl)
#print axioms cardB_holds
end Go.Proofs.Qxb6614728aGreatDoor
