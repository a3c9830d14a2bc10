import Derived.Test.Qxb6615779aFmtEncB
namespace Go.Proofs.Qxb6615779aFmt
open Go.RowKit Go.Shelf

/-- The table's name, off the given row. -/
abbrev powN : String := (Rows.fnBeginArrayThenIntsLayoutRow.named.drop 1).headD ""
theorem gPow : Tryf.prog.globalNamed powN = some 1 := by kernel_rfl

theorem tab_keep {w w' : World} (h : Lib.TabIs Tryf.prog w powN .u64 Lib.pow10Tab) (e : w'.heap[1]? = w.heap[1]?) : Lib.TabIs Tryf.prog w' powN .u64 Lib.pow10Tab := by
  unfold Lib.TabIs World.var? at h ⊢
  rw [gPow] at h ⊢
  simp only [Option.bind_some] at h ⊢
  rw [e]
  exact h
theorem tab_below {w : World} {B : Nat} (h : Lib.TabIs Tryf.prog w powN .u64 Lib.pow10Tab) (hB : 1 < B) : Lib.TabBelow Tryf.prog B w powN .u64 Lib.pow10Tab := fun _ hb => tab_keep h (hb.block 1 hB)

theorem appendInt (B n : Nat) (i : Int) (h0 : -9223372036854775808 ≤ i) (h1 : i ≤ 9223372036854775807) (sv : Value) (xs : List Value) (w : World) (hown : w.ownsRow B 5 1 sv n xs) (hBw : B ≤ w.heap.size) (hlim : n + 21 ≤ 140737488355328)
    (htab : Lib.TabBelow Tryf.prog B w powN .u64 Lib.pow10Tab) :
    Calls Tryf.prog 15 #[sv, .int .i64 i, .int .i64 10] w fun e w' => ∃ v', e = .returned v' ∧ w'.ownsRow B 5 1 v' (n + (Lib.itoa i).length) (xs ++ Lib.byteCells (Lib.itoa i)) ∧ Below B w w' ∧ Lib.OthersKept 5 none w w' :=
  Any.strconv_AppendInt_10 Tryf.laysAI B n i h0 h1 sv xs w hown hBw hlim htab

set_option maxRecDepth 100000 in
set_option maxHeartbeats 2000000 in
/-- (*Encoder).Int inside an array. -/
theorem encInt (B b : Nat) (cp : Bool) (v : Value) (l : List UInt8) (em : Bool) (n : Int) (h0 : -9223372036854775808 ≤ n) (h1 : n ≤ 9223372036854775807) (w : World) (h : EncS w b cp v 1 em) (ho : OwnB w B v l) (hb : b < B) (hb1 : 1 < b) (hB : B ≤ w.heap.size) (hl : l.length ≤ 800000000)
    (ht : Lib.TabIs Tryf.prog w powN .u64 Lib.pow10Tab) :
    Calls Tryf.prog 6 #[.pointer (some ⟨b, 0, none⟩), .int .i64 n] w fun e w' => e = .returned (.tuple #[]) ∧ ∃ v', EncS w' b cp v' 1 false ∧ OwnB w' B v' (l ++ sep cp em ++ Lib.itoa n) ∧ Fr B b w w' := by
  have C14 := beforeValue B b cp v l em w h ho hb hB (by omega)
  clear h ho
  go_enter Tryf.func6, Tryf.ntmps6
  go_wp2_with fail
  refine C14.mono ?_
  rintro e w1 ⟨rfl, v1, hE1, hO1, hF1⟩
  clear C14
  have hsl : (l ++ sep cp em).length ≤ 800000004 := by
    have : (sep cp em).length ≤ 4 := by cases cp <;> cases em <;> decide
    simp; omega
  obtain ⟨l1, hl1⟩ : ∃ l1, l1 = l ++ sep cp em := ⟨_, rfl⟩
  rw [← hl1] at hO1 hsl
  have C15 := appendInt B l1.length n h0 h1 v1 _ w1 hO1 (Nat.le_trans hB hF1.size) (by omega) (tab_below (tab_keep ht (hF1.block 1 (by omega) (by omega))) (by omega))
  have k1 := hE1.c1
  obtain ⟨a1, c1, hv1⟩ := hO1.shape
  subst hv1
  have HE1 := Lib.hid hE1
  have HF1 := Lib.hid hF1
  have HL1 := Lib.hid hl1
  clear hE1 hO1 hF1 hl1 ht
  go_wp2_with (go_at_call 15; refine C15.mono ?_; rintro e w2 ⟨v2, rfl, hown2, hnx2, -⟩; refine Hid.out ?_)
  refine Lib.hid ?_
  have hO2 : OwnB w2 B v2 (l1 ++ Lib.itoa n) := own_next hown2
  obtain ⟨l2, hl2⟩ : ∃ l2, l2 = l1 ++ Lib.itoa n := ⟨_, rfl⟩
  rw [← hl2] at hO2
  have HL2 := Lib.hid hl2
  clear hl2
  obtain ⟨a2, c2, hv2⟩ := hO2.shape
  subst hv2
  have hE2 := HE1.out.below hnx2 hb
  have hF2 : Fr B b w w2 := HF1.out.trans (Fr.below hnx2)
  have m1 := hE2.c1
  have mf := hE2.fz 1
  have HE2 := Lib.hid hE2
  have HF2 := Lib.hid hF2
  have HO2 := Lib.hid hO2
  clear hE2 hF2 hO2 hown2 hnx2 C15
  go_wp2
  go_end0
  exact ⟨rfl, _, HE2.out.set1 _, by rw [show l ++ sep cp em ++ Lib.itoa n = l2 by rw [HL2.out, HL1.out]]; exact HO2.out.set _ _ hb, HF2.out.set _ _⟩

set_option maxRecDepth 100000 in
set_option maxHeartbeats 2000000 in
/-- (*Encoder).open at a fresh Encoder. -/
theorem encOpen (B b : Nat) (cp : Bool) (w : World) (h : EncS w b cp (.slice none 0 0) 0 false) (hb : b < B) (hB : B ≤ w.heap.size) :
    Calls Tryf.prog 13 #[.pointer (some ⟨b, 0, none⟩), .int .u8 91] w fun e w' => e = .returned (.tuple #[]) ∧ ∃ v', EncS w' b cp v' 1 true ∧ OwnB w' B v' [91] ∧ Fr B b w w' := by
  obtain ⟨i0, hi, hz0, hz1, hz2⟩ := info_parts info5
  have C14 := beforeValue0 b cp _ false w h
  have k1 := h.c1
  have k2 := h.c2
  have HE := Lib.hid h
  have hO : w.ownsRow B 5 1 (.slice none 0 0) 0 [] := World.ownsRow_nil _ _ _ _
  have HO := Lib.hid hO
  clear h hO
  go_enter Tryf.func13, Tryf.ntmps13
  go_wp2_with (first
    | (go_at_call 14; refine C14.mono ?_; rintro e w' ⟨rfl, rfl⟩)
    | (at_builtin; refine wpList_append_own _ rfl _ _ 25 rfl B 5 i0 (.int .u8 0) 1 1 Tryf.underlying25 hi hz0 hz1 hz2 rfl (by decide) _ _ _ rfl (HO.out.alloc _) ⟨w'.heap.size, 0, none⟩ 1 1 [Value.int .u8 91] rfl rfl (by intro j u' hj; match j, hj with | 0, hj => simp at hj; subst hj; simp [Addr.add]) (by intro u' hu'; simp at hu'; subst hu'; rfl) (by decide) (by decide) (by simp; omega) ?_; intro v1 w1 hown1 hgrow1 _; refine Hid.out ?_))
  refine Lib.hid ?_
  have hE1 : EncS w1 b cp (.slice none 0 0) 0 false := (HE.out.alloc _).grown hgrow1 (by intro e; cases e)
  have hF1 : Fr B b w' w1 := ((Fr.refl B b w').alloc hB _).grown hgrow1 (by simp; omega) (by intro k e; cases e)
  have hO1 : OwnB w1 B v1 [91] := hown1
  obtain ⟨a1, c1, hv1⟩ := hO1.shape
  subst hv1
  have m1 := hE1.c1
  have mf1 := hE1.fz 1
  have m2 := hE1.c2
  have mf2 := hE1.fz 2
  have m3 := hE1.c3
  have mf3 := hE1.fz 3
  have HE1 := Lib.hid hE1
  have HF1 := Lib.hid hF1
  have HO1 := Lib.hid hO1
  clear hE1 hF1 hO1 hown1 hgrow1 C14
  go_wp2
  go_end0
  exact ⟨rfl, _, ((HE1.out.set1 _).set2 _).set3 _, ((HO1.out.set _ _ hb).set _ _ hb).set _ _ hb, ((HF1.out.set _ _).set _ _).set _ _⟩

theorem encBegin (B b : Nat) (cp : Bool) (w : World) (h : EncS w b cp (.slice none 0 0) 0 false) (hb : b < B) (hB : B ≤ w.heap.size) :
    Calls Tryf.prog 5 #[.pointer (some ⟨b, 0, none⟩)] w fun e w' => e = .returned (.tuple #[]) ∧ ∃ v', EncS w' b cp v' 1 true ∧ OwnB w' B v' [91] ∧ Fr B b w w' := by
  have C := encOpen B b cp w h hb hB
  clear h
  go_enter Tryf.func5, Tryf.ntmps5
  go_wp2_with fail
  refine C.mono ?_
  rintro e w3 ⟨rfl, h⟩
  have FIN := Lib.hid h
  clear h C
  go_wp2
  go_end0
  exact ⟨rfl, FIN.out⟩

theorem encFlags (b : Nat) (cp : Bool) (v : Value) (d : Int) (em : Bool) (w : World) (h : EncS w b cp v d em) : Calls Tryf.prog 8 #[.pointer (some ⟨b, 0, none⟩)] w fun e w' => e = .returned (.tuple #[.bool em, .bool false]) ∧ ∃ n, w' = w.drewN n := by
  have h3 := h.c3
  have h4 := h.c4
  clear h
  go_enter Tryf.func8, Tryf.ntmps8
  go_wp2_with fail
  go_quiet (fail)
  go_wp2
  go_ret2
  exact ⟨rfl, _, rfl⟩
theorem encBuf (b : Nat) (cp : Bool) (v : Value) (d : Int) (em : Bool) (w : World) (h : EncS w b cp v d em) : Calls Tryf.prog 10 #[.pointer (some ⟨b, 0, none⟩)] w fun e w' => e = .returned v ∧ w' = w := by
  have h3 := h.c1
  clear h
  go_enter Tryf.func10, Tryf.ntmps10
  go_wp2
  go_ret
  exact ⟨rfl, rfl⟩
theorem encDepth (b : Nat) (cp : Bool) (v : Value) (d : Int) (em : Bool) (w : World) (h : EncS w b cp v d em) : Calls Tryf.prog 11 #[.pointer (some ⟨b, 0, none⟩)] w fun e w' => e = .returned (.int .i64 d) ∧ w' = w := by
  have h3 := h.c2
  clear h
  go_enter Tryf.func11, Tryf.ntmps11
  go_wp2
  go_ret
  exact ⟨rfl, rfl⟩
theorem encErr (b : Nat) (cp : Bool) (v : Value) (d : Int) (em : Bool) (w : World) (h : EncS w b cp v d em) : Calls Tryf.prog 12 #[.pointer (some ⟨b, 0, none⟩)] w fun e w' => e = .returned .nilIface ∧ w' = w := by
  have h3 := h.c5
  clear h
  go_enter Tryf.func12, Tryf.ntmps12
  go_wp2
  go_ret
  exact ⟨rfl, rfl⟩
theorem bytes4 (q : Bool) (a : Option Addr) (n c : Nat) (w : World) :
    ∃ b, Calls Tryf.prog 4 #[.bool q, .slice a n c] w fun e w' => e = .returned (.bool b) ∧ w' = w := by
  by_cases h1 : (1048576 : Int) < n
  · refine ⟨false, ?_⟩
    go_enter Tryf.func4, Tryf.ntmps4
    go_wp2
    go_ret
    exact ⟨rfl, rfl⟩
  · have e1 : IntKind.i64.wrap (n : Int) = n := by rw [IntKind.wrap_i64]; omega
    refine ⟨true, ?_⟩
    go_enter Tryf.func4, Tryf.ntmps4
    go_wp2
    go_ret
    exact ⟨rfl, rfl⟩
end Go.Proofs.Qxb6615779aFmt
