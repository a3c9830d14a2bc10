import Derived.Test.Qxb6615779aFmtSame
namespace Go.Proofs.Qxb6615779aFmt
open Go.RowKit Go.Shelf

/-- The text behind k elements. -/
def txt (cp : Bool) (zs : List Int) (k : Nat) : List UInt8 := 91 :: ((List.range k).map fun i => sep cp (i == 0) ++ Lib.itoa (zs.getD i 0)).flatten
theorem txt_zero (cp : Bool) (zs : List Int) : txt cp zs 0 = [91] := by simp [txt]
theorem txt_succ (cp : Bool) (zs : List Int) (k : Nat) : txt cp zs (k + 1) = txt cp zs k ++ sep cp (k == 0) ++ Lib.itoa (zs.getD k 0) := by simp [txt, List.range_succ]
theorem sep_le (cp em : Bool) : (sep cp em).length ≤ 4 := by cases cp <;> cases em <;> decide
theorem txt_len (cp : Bool) (zs : List Int) (hz : ∀ z ∈ zs, -9223372036854775808 ≤ z ∧ z ≤ 9223372036854775807) : ∀ k, k ≤ zs.length → (txt cp zs k).length ≤ 1 + 25 * k
  | 0, _ => by simp [txt]
  | k + 1, hk => by
    rw [txt_succ, List.length_append, List.length_append]
    have h1 := txt_len cp zs hz k (by omega)
    have h2 := sep_le cp (k == 0)
    have hg : zs.getD k 0 = zs[k] := by simp [List.getD_eq_getElem?_getD, show k < zs.length by omega]
    have h3 := hz zs[k] (List.getElem_mem _)
    have h4 := Lib.itoa_length_le (zs.getD k 0) (by rw [hg]; exact h3.1) (by rw [hg]; exact h3.2)
    omega

/-- The ints of a slice that came in. -/
def IntsAt (w : World) (a : Option Addr) (zs : List Int) : Prop := zs = [] ∨ ∃ b off, a = some ⟨b, off, none⟩ ∧ b < w.heap.size ∧ ∀ j, j < zs.length → w.cell? ⟨b, off + j, none⟩ = some (.int .i64 (zs.getD j 0))

theorem fr_below {B b n : Nat} {w w' : World} (h : Fr B b w w') (hn : n ≤ B) (hb : n ≤ b) : Below n w w' := ⟨h.os, h.tape, h.output, h.size, fun k hk => h.block k (by omega) (by omega)⟩
theorem byAt_heap {w W : World} {a : Option Addr} {l : List UInt8} (h : ByAt w a l) (e : W.heap = w.heap) : ByAt W a l := by
  rcases h with h | ⟨b, rfl, h⟩
  · exact .inl h
  · exact .inr ⟨b, rfl, fun j hj => (World.cell?_of_block (w := w) (by rw [e])).trans (h j hj)⟩
theorem below_heap {n : Nat} {w w' W : World} (h : Below n w w') (e : W.heap = w'.heap) (e1 : W.os = w'.os) (e2 : W.tape = w'.tape) (e3 : W.output = w'.output) : Below n w W :=
  ⟨e1.trans h.os, e2.trans h.tape, e3.trans h.output, by rw [e]; exact h.size, fun k hk => by rw [e]; exact h.block k hk⟩

set_option maxRecDepth 100000 in
set_option maxHeartbeats 2000000 in
/-- The law's first half. -/
theorem law_main (cp : Bool) (a0 : Option Addr) (cap0 : Nat) (zs : List Int) (w : World) (hI : IntsAt w a0 zs) (hN : zs.length ≤ 65536) (hz : ∀ z ∈ zs, -9223372036854775808 ≤ z ∧ z ≤ 9223372036854775807) (ht : Lib.TabIs Tryf.prog w powN .u64 Lib.pow10Tab) (hg1 : 1 < w.heap.size)
    (hb : Calls Tryf.prog 4 #[.bool cp, .slice a0 zs.length cap0] w fun e w' => e = .returned (.bool true) ∧ w' = w) :
    Calls Tryf.prog 3 #[.bool cp, .slice a0 zs.length cap0] w fun e w' => e = .returned (.bool true) ∧ Below w.heap.size w w' := by
  have b1 : decide ((65536 : Int) < (zs.length : Int)) = false := by simp; omega
  have HN := Lib.hid hN
  have HI := Lib.hid hI
  have HZ := Lib.hid hz
  have HT := Lib.hid ht
  clear hN hI hz ht
  go_enter Tryf.func3, Tryf.ntmps3
  go_wp2_with fail
  refine hb.mono ?_
  rintro e w' ⟨rfl, rfl⟩
  clear hb
  go_wp2_with fail
  obtain ⟨w1, hw1⟩ : ∃ w1, w1 = w'.alloc (.cells #[.bool cp, .slice none 0 0, .int .i64 0, .bool false, .bool false, .nilIface] 29) := ⟨_, rfl⟩
  have hE1 : EncS w1 w'.heap.size cp (.slice none 0 0) 0 false := by rw [hw1]; exact ⟨by simp, by simp, by simp, by simp, by simp, by simp, by simp⟩
  have hB1 : Below w'.heap.size w' w1 := by rw [hw1]; exact (Below.refl _ _).alloc (Nat.le_refl _) _
  have hS1 : w1.heap.size = w'.heap.size + 1 := by rw [hw1]; simp
  obtain ⟨b, hbe⟩ : ∃ b, b = w'.heap.size := ⟨_, rfl⟩
  rw [← hbe] at hE1 hS1
  have C5 := encBegin w1.heap.size b cp w1 hE1 (by omega) (Nat.le_refl _)
  rw [← hw1, ← hbe]
  have HBE := Lib.hid hbe
  have HB1 := Lib.hid hB1
  have HS1 := Lib.hid hS1
  clear hw1 hE1 hB1 hS1 hbe
  refine C5.mono ?_
  rintro e w2 ⟨rfl, v2, hE2, hO2, hF2⟩
  clear C5
  have HE2 := Lib.hid hE2
  have HO2 := Lib.hid hO2
  have HF2 := Lib.hid hF2
  clear hE2 hO2 hF2
  go_wp2_with fail
  go_loopw [6] (fun iv wr => ∃ (k : Nat) (v : Value), k ≤ zs.length ∧ iv = .int .i64 (k : Int) ∧ EncS wr b cp v 1 (k == 0) ∧ OwnB wr w1.heap.size v (txt cp zs k) ∧ Fr w1.heap.size b w1 wr) (fun iv _ => zs.length - (intOf iv).toNat)
  case atStart => exact ⟨0, v2, Nat.zero_le _, rfl, HE2.out, by rw [txt_zero]; exact HO2.out, HF2.out⟩
  case round =>
    obtain ⟨k, v, hk, rfl, hE, hO, hF⟩ := hrel
    by_cases hlt : k < zs.length
    · have hzk : zs.getD k 0 = zs[k] := by simp [List.getD_eq_getElem?_getD, hlt]
      have hzr := HZ.out zs[k] (List.getElem_mem _)
      rw [← hzk] at hzr
      have C6 := encInt w1.heap.size b cp v (txt cp zs k) (k == 0) (zs.getD k 0) hzr.1 hzr.2 wr hE hO (by have := HS1.out; omega) (by have := HBE.out; omega) hF.size (by have := txt_len cp zs HZ.out k hk; have := HN.out; omega)
        (tab_keep HT.out ((hF.block 1 (by have := HBE.out; have := HS1.out; omega) (by have := HBE.out; omega)).trans (HB1.out.block 1 hg1)))
      rw [← txt_succ] at C6
      rcases HI.out with h0 | ⟨g, off, rfl, hgl, hgc⟩
      · rw [h0] at hlt; simp at hlt
      have hcell := hgc k hlt
      have hcell' : wr.cell? ⟨g, off + k, none⟩ = some (.int .i64 (zs.getD k 0)) := by
        rw [World.cell?_of_block (w := w1) (hF.block g (by have := HS1.out; have := HBE.out; omega) (by have := HBE.out; omega)), World.cell?_of_block (w := w') (HB1.out.block g hgl)]
        exact hcell
      have HF := Lib.hid hF
      have wk : IntKind.i64.wrap ((k : Int) + 1) = (k : Int) + 1 := by have := HN.out; rw [IntKind.wrap_i64]; omega
      clear hgc hcell hE hO hF hzr hzk
      generalize zs.getD k 0 = z at C6 hcell'
      go_wp2_with fail
      refine C6.mono ?_
      rintro e w3 ⟨rfl, v3, hE3, hO3, hF3⟩
      have FIN := Lib.hid (show EncS w3 b cp v3 1 (k + 1 == 0) ∧ OwnB w3 w1.heap.size v3 (txt cp zs (k + 1)) ∧ Fr w1.heap.size b w1 w3 from ⟨by simpa using hE3, hO3, HF.out.trans hF3⟩)
      clear hE3 hO3 hF3 C6
      go_wp2_with fail
      go_roundw
      case rel => exact ⟨k + 1, v3, by omega, by go_num, FIN.out⟩
      case measure => simp [intOf]; omega
    · obtain rfl : k = zs.length := by omega
      have HE := Lib.hid hE
      have HO := Lib.hid hO
      have HF := Lib.hid hF
      clear hE hO hF
      go_wp2_with fail
      obtain ⟨i0, hi, hz0, hz1, hz2⟩ := info_parts info5
      obtain ⟨wp, rfl⟩ : ∃ wp, wp = wr := ⟨_, rfl⟩
      obtain ⟨vE, rfl⟩ : ∃ vE, vE = v := ⟨_, rfl⟩
      obtain ⟨B2, hB2⟩ : ∃ B2, B2 = wp.heap.size := ⟨_, rfl⟩
      have HB2 := Lib.hid hB2
      obtain ⟨wq, hwq⟩ : ∃ wq, wq = wp.alloc (.cells #[.int .u8 91] 5) := ⟨_, rfl⟩
      have hOq : OwnB wq B2 (.slice (some ⟨wp.heap.size, 0, none⟩) 1 1) [91] := by rw [hwq]; exact World.ownsRow_lit wp _ 1 (by omega) (by decide) rfl
      have hBq : Below B2 wp wq := by rw [hwq, hB2]; exact (Below.refl _ _).alloc (Nat.le_refl _) _
      rw [← hwq]
      have HOq := Lib.hid hOq
      have HBq := Lib.hid hBq
      clear hwq hOq hBq hB2
      go_loopw [7, 8] (fun wv iv wr => ∃ (k : Nat) (v : Value), k ≤ zs.length ∧ iv = .int .i64 (k : Int) ∧ wv = v ∧ OwnB wr B2 v (txt cp zs k) ∧ Below B2 wp wr) (fun _ iv _ => zs.length - (intOf iv).toNat)
      case atStart => exact ⟨0, _, Nat.zero_le _, rfl, rfl, by rw [txt_zero]; exact HOq.out, HBq.out⟩
      case round =>
        obtain ⟨k, v, hk, rfl, rfl, hO2, hBl2⟩ := hrel
        by_cases hlt : k < zs.length
        · have hzk : zs.getD k 0 = zs[k] := by simp [List.getD_eq_getElem?_getD, hlt]
          have hzr := HZ.out zs[k] (List.getElem_mem _)
          rw [← hzk] at hzr
          rcases HI.out with h0 | ⟨g, off, rfl, hgl, hgc⟩
          · rw [h0] at hlt; simp at hlt
          have hcell : wp.cell? ⟨g, off + k, none⟩ = some (.int .i64 (zs.getD k 0)) := by
            rw [World.cell?_of_block (w := w1) (HF.out.block g (by have := HS1.out; have := HBE.out; omega) (by have := HBE.out; omega)), World.cell?_of_block (w := w') (HB1.out.block g hgl)]
            exact hgc k hlt
          have hgB : g < B2 := by have := HB2.out; have := HF.out.size; have := HS1.out; have := HBE.out; omega
          obtain ⟨z, hze⟩ : ∃ z, z = zs.getD k 0 := ⟨_, rfl⟩
          rw [← hze] at hcell hzr
          have HZe := Lib.hid (show zs.getD k 0 = z from hze.symm)
          obtain ⟨l, hle⟩ : ∃ l, l = txt cp zs k := ⟨_, rfl⟩
          rw [← hle] at hO2
          have HLt := Lib.hid hle
          have HO2l : Hid (l.length ≤ 1700000) := (show l.length ≤ 1700000 by rw [hle]; have := txt_len cp zs HZ.out k hk; have := HN.out; omega)
          have HLk : Hid (l.length ≤ 1700000) := HO2l
          obtain ⟨a, c, hv⟩ := hO2.shape
          subst hv
          have HO2 := Lib.hid hO2
          have HO2b := Lib.hid hBl2
          have HO2s : Hid (B2 ≤ wr.heap.size) := (show B2 ≤ wr.heap.size by have := hBl2.size; have := HB2.out; omega)
          have wk : IntKind.i64.wrap ((k : Int) + 1) = (k : Int) + 1 := by have := HN.out; rw [IntKind.wrap_i64]; omega
          clear hgc hO2 hBl2 hze hle hzk
          by_cases hk0 : k = 0
          · have hkn : ¬ (0 : Int) < (k : Int) := by omega
            have HK0 := Lib.hid hk0
            clear hk0
            cases cp
            ·
              go_wp2_with (at_builtin; refine wpList_append_own _ rfl _ _ 25 rfl B2 5 i0 (.int .u8 0) 1 1 Tryf.underlying25 hi hz0 hz1 hz2 rfl (by decide) _ _ _ rfl (HO2.out.alloc _) ⟨wr.heap.size, 0, none⟩ 3 3 [Value.int .u8 10, Value.int .u8 32, Value.int .u8 32] rfl rfl (by intro j u' hj; match j, hj with | 0, hj => simp at hj; subst hj; simp [Addr.add] | 1, hj => simp at hj; subst hj; simp [Addr.add] | 2, hj => simp at hj; subst hj; simp [Addr.add]) (by intro u' hu'; simp at hu'; first | (rcases hu' with rfl | rfl <;> rfl) | (subst hu'; rfl)) (by unfold maxLen; have := HO2l.out; omega) (by have := HO2l.out; omega) (by have := HO2s.out; simp; omega) ?_; intro vw5 w5 hownw5 hgroww5 _; refine Hid.out ?_)
              refine Lib.hid ?_
              have hOw5 : OwnB w5 B2 vw5 (l ++ [10, 32, 32]) := own_next (m := [10, 32, 32]) hownw5
              have hBlw5 : Below B2 wp w5 := ((HO2b.out.alloc HO2s.out _).grown hgroww5 (by have := HO2s.out; simp; omega) HO2.out.row)
              obtain ⟨l5, hll5⟩ : ∃ m, m = l ++ [10, 32, 32] := ⟨_, rfl⟩
              rw [← hll5] at hOw5
              have HEl5 := Lib.hid hll5
              have Hw5l : Hid (l5.length ≤ 1700010) := (show l5.length ≤ 1700010 by have := HO2l.out; rw [hll5]; simp; have := HLk.out; omega)
              obtain ⟨aw5, cw5, hvw5⟩ := hOw5.shape
              subst hvw5
              have Hw5 := Lib.hid hOw5
              have Hw5b := Lib.hid hBlw5
              have Hw5s : Hid (B2 ≤ w5.heap.size) := (show B2 ≤ w5.heap.size by have := hBlw5.size; have := HB2.out; omega)
              clear hownw5 hgroww5 hOw5 hBlw5 hll5
              have hcl : w5.cell? ⟨g, off + k, none⟩ = some (.int .i64 z) := (World.cell?_of_block (w := wp) (Hw5b.out.block g (by omega))).trans hcell
              have C7 := zzAppendInt B2 z hzr.1 hzr.2 (.slice aw5 l5.length cw5) l5 w5 Hw5.out Hw5s.out (by have := Hw5l.out; omega)
              go_wp2_with (go_at_call 7; refine C7.mono ?_; rintro e w6 ⟨v6, rfl, hO6, hB6⟩; refine Hid.out ?_)
              refine Lib.hid ?_
              have FIN := Lib.hid (show OwnB w6 B2 v6 (txt false zs (k + 1)) ∧ Below B2 wp w6 from ⟨by rw [txt_succ, ← HLt.out, HZe.out]; rw [HEl5.out] at hO6; simpa [sep, nl, HK0.out] using hO6, Hw5b.out.trans hB6⟩)
              clear hO6 hB6 C7 hcl
              go_wp2_with fail
              go_roundw
              case rel => exact ⟨k + 1, v6, by omega, by go_num, rfl, FIN.out.1, FIN.out.2⟩
              case measure => simp [intOf]; omega
            ·
              have hcl : wr.cell? ⟨g, off + k, none⟩ = some (.int .i64 z) := (World.cell?_of_block (w := wp) (HO2b.out.block g (by omega))).trans hcell
              have C7 := zzAppendInt B2 z hzr.1 hzr.2 (.slice a l.length c) l wr HO2.out HO2s.out (by have := HO2l.out; omega)
              go_wp2_with (go_at_call 7; refine C7.mono ?_; rintro e w6 ⟨v6, rfl, hO6, hB6⟩; refine Hid.out ?_)
              refine Lib.hid ?_
              have FIN := Lib.hid (show OwnB w6 B2 v6 (txt true zs (k + 1)) ∧ Below B2 wp w6 from ⟨by rw [txt_succ, ← HLt.out, HZe.out]; simpa [sep, nl, HK0.out] using hO6, HO2b.out.trans hB6⟩)
              clear hO6 hB6 C7 hcl
              go_wp2_with fail
              go_roundw
              case rel => exact ⟨k + 1, v6, by omega, by go_num, rfl, FIN.out.1, FIN.out.2⟩
              case measure => simp [intOf]; omega
          · have hkp : (0 : Int) < (k : Int) := by omega
            cases cp
            ·
              go_wp2_with (at_builtin; refine wpList_append_own _ rfl _ _ 25 rfl B2 5 i0 (.int .u8 0) 1 1 Tryf.underlying25 hi hz0 hz1 hz2 rfl (by decide) _ _ _ rfl (HO2.out.alloc _) ⟨wr.heap.size, 0, none⟩ 1 1 [Value.int .u8 44] rfl rfl (by intro j u' hj; match j, hj with | 0, hj => simp at hj; subst hj; simp [Addr.add]) (by intro u' hu'; simp at hu'; first | (rcases hu' with rfl | rfl <;> rfl) | (subst hu'; rfl)) (by unfold maxLen; have := HO2l.out; omega) (by have := HO2l.out; omega) (by have := HO2s.out; simp; omega) ?_; intro vw4 w4 hownw4 hgroww4 _; refine Hid.out ?_)
              refine Lib.hid ?_
              have hOw4 : OwnB w4 B2 vw4 (l ++ [44]) := own_next (m := [44]) hownw4
              have hBlw4 : Below B2 wp w4 := ((HO2b.out.alloc HO2s.out _).grown hgroww4 (by have := HO2s.out; simp; omega) HO2.out.row)
              obtain ⟨l4, hll4⟩ : ∃ m, m = l ++ [44] := ⟨_, rfl⟩
              rw [← hll4] at hOw4
              have HEl4 := Lib.hid hll4
              have Hw4l : Hid (l4.length ≤ 1700001) := (show l4.length ≤ 1700001 by have := HO2l.out; rw [hll4]; simp; have := HLk.out; omega)
              obtain ⟨aw4, cw4, hvw4⟩ := hOw4.shape
              subst hvw4
              have Hw4 := Lib.hid hOw4
              have Hw4b := Lib.hid hBlw4
              have Hw4s : Hid (B2 ≤ w4.heap.size) := (show B2 ≤ w4.heap.size by have := hBlw4.size; have := HB2.out; omega)
              clear hownw4 hgroww4 hOw4 hBlw4 hll4
              go_wp2_with (at_builtin; refine wpList_append_own _ rfl _ _ 25 rfl B2 5 i0 (.int .u8 0) 1 1 Tryf.underlying25 hi hz0 hz1 hz2 rfl (by decide) _ _ _ rfl (Hw4.out.alloc _) ⟨w4.heap.size, 0, none⟩ 3 3 [Value.int .u8 10, Value.int .u8 32, Value.int .u8 32] rfl rfl (by intro j u' hj; match j, hj with | 0, hj => simp at hj; subst hj; simp [Addr.add] | 1, hj => simp at hj; subst hj; simp [Addr.add] | 2, hj => simp at hj; subst hj; simp [Addr.add]) (by intro u' hu'; simp at hu'; first | (rcases hu' with rfl | rfl <;> rfl) | (subst hu'; rfl)) (by unfold maxLen; have := Hw4l.out; omega) (by have := Hw4l.out; omega) (by have := Hw4s.out; simp; omega) ?_; intro vw5 w5 hownw5 hgroww5 _; refine Hid.out ?_)
              refine Lib.hid ?_
              have hOw5 : OwnB w5 B2 vw5 (l4 ++ [10, 32, 32]) := own_next (m := [10, 32, 32]) hownw5
              have hBlw5 : Below B2 wp w5 := ((Hw4b.out.alloc Hw4s.out _).grown hgroww5 (by have := Hw4s.out; simp; omega) Hw4.out.row)
              obtain ⟨l5, hll5⟩ : ∃ m, m = l4 ++ [10, 32, 32] := ⟨_, rfl⟩
              rw [← hll5] at hOw5
              have HEl5 := Lib.hid hll5
              have Hw5l : Hid (l5.length ≤ 1700010) := (show l5.length ≤ 1700010 by have := Hw4l.out; rw [hll5]; simp; have := HLk.out; omega)
              obtain ⟨aw5, cw5, hvw5⟩ := hOw5.shape
              subst hvw5
              have Hw5 := Lib.hid hOw5
              have Hw5b := Lib.hid hBlw5
              have Hw5s : Hid (B2 ≤ w5.heap.size) := (show B2 ≤ w5.heap.size by have := hBlw5.size; have := HB2.out; omega)
              clear hownw5 hgroww5 hOw5 hBlw5 hll5
              have hcl : w5.cell? ⟨g, off + k, none⟩ = some (.int .i64 z) := (World.cell?_of_block (w := wp) (Hw5b.out.block g (by omega))).trans hcell
              have C7 := zzAppendInt B2 z hzr.1 hzr.2 (.slice aw5 l5.length cw5) l5 w5 Hw5.out Hw5s.out (by have := Hw5l.out; omega)
              go_wp2_with (go_at_call 7; refine C7.mono ?_; rintro e w6 ⟨v6, rfl, hO6, hB6⟩; refine Hid.out ?_)
              refine Lib.hid ?_
              have FIN := Lib.hid (show OwnB w6 B2 v6 (txt false zs (k + 1)) ∧ Below B2 wp w6 from ⟨by rw [txt_succ, ← HLt.out, HZe.out]; rw [HEl5.out, HEl4.out] at hO6; simpa [sep, nl, hk0] using hO6, Hw5b.out.trans hB6⟩)
              clear hO6 hB6 C7 hcl
              go_wp2_with fail
              go_roundw
              case rel => exact ⟨k + 1, v6, by omega, by go_num, rfl, FIN.out.1, FIN.out.2⟩
              case measure => simp [intOf]; omega
            ·
              go_wp2_with (at_builtin; refine wpList_append_own _ rfl _ _ 25 rfl B2 5 i0 (.int .u8 0) 1 1 Tryf.underlying25 hi hz0 hz1 hz2 rfl (by decide) _ _ _ rfl (HO2.out.alloc _) ⟨wr.heap.size, 0, none⟩ 1 1 [Value.int .u8 44] rfl rfl (by intro j u' hj; match j, hj with | 0, hj => simp at hj; subst hj; simp [Addr.add]) (by intro u' hu'; simp at hu'; first | (rcases hu' with rfl | rfl <;> rfl) | (subst hu'; rfl)) (by unfold maxLen; have := HO2l.out; omega) (by have := HO2l.out; omega) (by have := HO2s.out; simp; omega) ?_; intro vw4 w4 hownw4 hgroww4 _; refine Hid.out ?_)
              refine Lib.hid ?_
              have hOw4 : OwnB w4 B2 vw4 (l ++ [44]) := own_next (m := [44]) hownw4
              have hBlw4 : Below B2 wp w4 := ((HO2b.out.alloc HO2s.out _).grown hgroww4 (by have := HO2s.out; simp; omega) HO2.out.row)
              obtain ⟨l4, hll4⟩ : ∃ m, m = l ++ [44] := ⟨_, rfl⟩
              rw [← hll4] at hOw4
              have HEl4 := Lib.hid hll4
              have Hw4l : Hid (l4.length ≤ 1700001) := (show l4.length ≤ 1700001 by have := HO2l.out; rw [hll4]; simp; have := HLk.out; omega)
              obtain ⟨aw4, cw4, hvw4⟩ := hOw4.shape
              subst hvw4
              have Hw4 := Lib.hid hOw4
              have Hw4b := Lib.hid hBlw4
              have Hw4s : Hid (B2 ≤ w4.heap.size) := (show B2 ≤ w4.heap.size by have := hBlw4.size; have := HB2.out; omega)
              clear hownw4 hgroww4 hOw4 hBlw4 hll4
              have hcl : w4.cell? ⟨g, off + k, none⟩ = some (.int .i64 z) := (World.cell?_of_block (w := wp) (Hw4b.out.block g (by omega))).trans hcell
              have C7 := zzAppendInt B2 z hzr.1 hzr.2 (.slice aw4 l4.length cw4) l4 w4 Hw4.out Hw4s.out (by have := Hw4l.out; omega)
              go_wp2_with (go_at_call 7; refine C7.mono ?_; rintro e w6 ⟨v6, rfl, hO6, hB6⟩; refine Hid.out ?_)
              refine Lib.hid ?_
              have FIN := Lib.hid (show OwnB w6 B2 v6 (txt true zs (k + 1)) ∧ Below B2 wp w6 from ⟨by rw [txt_succ, ← HLt.out, HZe.out]; rw [HEl4.out] at hO6; simpa [sep, nl, hk0] using hO6, Hw4b.out.trans hB6⟩)
              clear hO6 hB6 C7 hcl
              go_wp2_with fail
              go_roundw
              case rel => exact ⟨k + 1, v6, by omega, by go_num, rfl, FIN.out.1, FIN.out.2⟩
              case measure => simp [intOf]; omega
        · obtain rfl : k = zs.length := by omega
          have hEw : EncS wr b cp vE 1 (zs.length == 0) := HE.out.below hBl2 (by have := HB2.out; have := HF.out.size; have := HS1.out; omega)
          have hg2 : wp.grownBy wr none := ⟨hBl2.os, hBl2.tape, hBl2.output, hBl2.size, fun i hi _ => hBl2.block i (by have := HB2.out; omega)⟩
          have hOE : OwnB wr w1.heap.size vE (txt cp zs zs.length) := HO.out.kept hg2 (fun i _ e => by cases e)
          have hlen : (txt cp zs zs.length).length ≤ 2000000 := by have := txt_len cp zs HZ.out zs.length (Nat.le_refl _); have := HN.out; omega
          obtain ⟨l, hle⟩ : ∃ l, l = txt cp zs zs.length := ⟨_, rfl⟩
          rw [← hle] at hOE hO2 hlen
          clear hle
          obtain ⟨aE, cE, hvE⟩ := hOE.shape
          subst hvE
          obtain ⟨a2, c2, hv2⟩ := hO2.shape
          subst hv2
          have yA := hOE.byAt
          have yB := hO2.byAt
          have BEL : Hid (Below w'.heap.size w' wr) := (show Below w'.heap.size w' wr from (HB1.out.trans (fr_below HF.out (by have := HS1.out; have := HBE.out; omega) (by have := HBE.out; omega))).trans (hBl2.mono (by have := HB2.out; have := HF.out.size; have := HS1.out; have := HBE.out; omega)))
          have C9 := fun W (hW : W.heap = wr.heap) => sameBytes aE a2 cE c2 l W (byAt_heap yA hW) (byAt_heap yB hW) (by omega)
          by_cases h0 : zs.length = 0
          · have eb : (zs.length == 0) = true := by simp [h0]
            have ei : ((zs.length : Int) == 0) = true := by simp [h0]
            rw [eb] at hEw
            have C8 := encFlags b cp _ 1 true wr hEw
            have C10 := fun W (hW : W.heap = wr.heap) => encBuf b cp _ 1 true W (hEw.keep (by rw [hW]))
            have C11 := fun W (hW : W.heap = wr.heap) => encDepth b cp _ 1 true W (hEw.keep (by rw [hW]))
            have C12 := fun W (hW : W.heap = wr.heap) => encErr b cp _ 1 true W (hEw.keep (by rw [hW]))
            clear hEw hg2 hOE hO2 hBl2 yA yB h0 eb
            go_wp2_with (first
              | (go_at_call 8; refine C8.mono ?_; rintro e w3 ⟨rfl, n3, rfl⟩)
              | (go_at_call 10; refine (C10 _ (by rfl)).mono ?_; rintro e w4 ⟨rfl, rfl⟩)
              | (go_at_call 9; refine (C9 _ (by rfl)).mono ?_; rintro e w5 ⟨rfl, n5, rfl⟩)
              | (go_at_call 11; refine (C11 _ (by rfl)).mono ?_; rintro e w6 ⟨rfl, rfl⟩)
              | (go_at_call 12; refine (C12 _ (by rfl)).mono ?_; rintro e w7 ⟨rfl, rfl⟩))
            go_ret
            exact ⟨rfl, below_heap BEL.out rfl rfl rfl rfl⟩
          · have eb : (zs.length == 0) = false := by simp [h0]
            have ei : ((zs.length : Int) == 0) = false := by simp; exact fun e => h0 (by rw [e]; rfl)
            rw [eb] at hEw
            have C8 := encFlags b cp _ 1 false wr hEw
            have C10 := fun W (hW : W.heap = wr.heap) => encBuf b cp _ 1 false W (hEw.keep (by rw [hW]))
            have C11 := fun W (hW : W.heap = wr.heap) => encDepth b cp _ 1 false W (hEw.keep (by rw [hW]))
            have C12 := fun W (hW : W.heap = wr.heap) => encErr b cp _ 1 false W (hEw.keep (by rw [hW]))
            clear hEw hg2 hOE hO2 hBl2 yA yB h0 eb
            go_wp2_with (first
              | (go_at_call 8; refine C8.mono ?_; rintro e w3 ⟨rfl, n3, rfl⟩)
              | (go_at_call 10; refine (C10 _ (by rfl)).mono ?_; rintro e w4 ⟨rfl, rfl⟩)
              | (go_at_call 9; refine (C9 _ (by rfl)).mono ?_; rintro e w5 ⟨rfl, n5, rfl⟩)
              | (go_at_call 11; refine (C11 _ (by rfl)).mono ?_; rintro e w6 ⟨rfl, rfl⟩)
              | (go_at_call 12; refine (C12 _ (by rfl)).mono ?_; rintro e w7 ⟨rfl, rfl⟩))
            go_ret
            exact ⟨rfl, below_heap BEL.out rfl rfl rfl rfl⟩
end Go.Proofs.Qxb6615779aFmt
