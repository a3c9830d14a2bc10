import Derived.Test.Qxb6615779aFmtEnc
import Derived.Test.Qxb6615779aFmtShelf
import Derived.Lib.AppendIntMem
import Derived.Lib.ItoaNum
import Derived.Lib.ItoaLen
namespace Go.Proofs.Qxb6615779aFmt
open Go.RowKit Go.Shelf

theorem newline (B b : Nat) (cp : Bool) (v : Value) (l : List UInt8) (em : Bool) (w : World) (h : EncS w b cp v 1 em) (ho : OwnB w B v l) (hb : b < B) (hB : B ≤ w.heap.size) (hl : l.length ≤ 1000000000) :
    Calls Tryf.prog 22 #[.pointer (some ⟨b, 0, none⟩)] w fun e w' => e = .returned (.tuple #[]) ∧ ∃ v', EncS w' b cp v' 1 em ∧ OwnB w' B v' (l ++ nl cp) ∧ Fr B b w w' := by
  cases cp
  · exact newline_wide B b v l em w h ho hb hB hl
  · exact (newline_compact b v 1 em w h).mono fun e w' ⟨he, hw⟩ => ⟨he, v, by rw [hw]; exact h, by rw [hw]; simpa [nl] using ho, by rw [hw]; exact Fr.refl _ _ _⟩

/-- What comes ahead of an element. -/
def sep (cp em : Bool) : List UInt8 := (if em then [] else [44]) ++ nl cp

set_option maxRecDepth 100000 in
set_option maxHeartbeats 2000000 in
theorem beforeElement (B b : Nat) (cp : Bool) (v : Value) (l : List UInt8) (em : Bool) (w : World) (h : EncS w b cp v 1 em) (ho : OwnB w B v l) (hb : b < B) (hB : B ≤ w.heap.size) (hl : l.length ≤ 900000000) :
    Calls Tryf.prog 18 #[.pointer (some ⟨b, 0, none⟩)] w fun e w' => e = .returned (.tuple #[]) ∧ ∃ v', EncS w' b cp v' 1 false ∧ OwnB w' B v' (l ++ sep cp em) ∧ Fr B b w w' := by
  obtain ⟨i0, hi, hz0, hz1, hz2⟩ := info_parts info5
  have k1 := h.c1
  have k2 := h.c2
  have k3 := h.c3
  have HE := Lib.hid h
  have HO := Lib.hid ho
  have kf3 := h.fz 3
  clear h ho
  obtain ⟨a, c, rfl⟩ := HO.out.shape
  cases em
  · go_enter Tryf.func18, Tryf.ntmps18
    go_wp2_with (at_builtin; refine wpList_append_own _ rfl _ _ 25 rfl B 5 i0 (.int .u8 0) 1 1 Tryf.underlying25 hi hz0 hz1 hz2 rfl (by decide) _ _ _ rfl (HO.out.alloc _) ⟨w.heap.size, 0, none⟩ 1 1 [Value.int .u8 44] rfl rfl (by intro j u' hj; match j, hj with | 0, hj => simp at hj; subst hj; simp [Addr.add]) (by intro u' hu'; simp at hu'; subst hu'; rfl) (by unfold maxLen; omega) (by omega) (by simp; omega) ?_; intro v1 w1 hown1 hgrow1 _; refine Hid.out ?_)
    refine Lib.hid ?_
    have hE1 : EncS w1 b cp (.slice a l.length c) 1 false := (HE.out.alloc _).grown hgrow1 (fun e => by have := HO.out.row b e.symm; omega)
    have hF1 : Fr B b w w1 := ((Fr.refl B b w).alloc hB _).grown hgrow1 (by simp; omega) HO.out.row
    have hO1 : OwnB w1 B v1 (l ++ [44]) := own_next (m := [44]) hown1
    obtain ⟨l1, hl1⟩ : ∃ l1, l1 = l ++ [44] := ⟨_, rfl⟩
    rw [← hl1] at hO1
    have HL1 := Lib.hid hl1
    clear hl1
    obtain ⟨a1, c1, hv1⟩ := hO1.shape
    subst hv1
    clear hown1 hgrow1
    have m1 := hE1.c1
    have mf := hE1.fz 1
    have m3 := hE1.c3
    have mf3 := hE1.fz 3
    obtain ⟨w2, hw2⟩ : ∃ w2, w2 = (w1.setCell ⟨b, 1, none⟩ (.slice a1 l1.length c1)).setCell ⟨b, 3, none⟩ (.bool false) := ⟨_, rfl⟩
    have C := newline B b cp (.slice a1 l1.length c1) l1 false w2 (by rw [hw2]; exact (hE1.set1 _).set3 _) (by rw [hw2]; exact (hO1.set _ _ hb).set _ _ hb) hb (by rw [hw2]; have := hF1.size; simp; omega) (by rw [HL1.out]; simp; omega)
    have HF2 : Hid (Fr B b w w2) := (show Fr B b w w2 by rw [hw2]; exact (hF1.set _ _).set _ _)
    have HW2 := Lib.hid hw2
    clear hE1 hF1 hO1 hw2
    go_wp2_with fail
    rw [← HW2.out]
    refine C.mono ?_
    rintro e w3 ⟨rfl, v3, hE3, hO3, hF3⟩
    have FIN : Hid (∃ v', EncS w3 b cp v' 1 false ∧ OwnB w3 B v' (l ++ sep cp false) ∧ Fr B b w w3) := (show ∃ v', _ from ⟨v3, hE3, by rw [show l ++ sep cp false = l1 ++ nl cp by rw [HL1.out]; simp [sep]]; exact hO3, HF2.out.trans hF3⟩)
    clear hE3 hO3 hF3 C
    go_wp2
    go_end0
    exact ⟨rfl, FIN.out⟩
  · obtain ⟨w2, hw2⟩ : ∃ w2, w2 = w.setCell ⟨b, 3, none⟩ (.bool false) := ⟨_, rfl⟩
    have C := newline B b cp (.slice a l.length c) l false w2 (by rw [hw2]; exact HE.out.set3 _) (by rw [hw2]; exact HO.out.set _ _ hb) hb (by rw [hw2]; simp; omega) (by omega)
    have HF2 : Hid (Fr B b w w2) := (show Fr B b w w2 by rw [hw2]; exact (Fr.refl _ _ _).set _ _)
    have HW2 := Lib.hid hw2
    clear hw2
    go_enter Tryf.func18, Tryf.ntmps18
    go_wp2_with fail
    rw [← HW2.out]
    refine C.mono ?_
    rintro e w3 ⟨rfl, v3, hE3, hO3, hF3⟩
    have FIN : Hid (∃ v', EncS w3 b cp v' 1 false ∧ OwnB w3 B v' (l ++ sep cp true) ∧ Fr B b w w3) := (show ∃ v', _ from ⟨v3, hE3, by simpa [sep] using hO3, HF2.out.trans hF3⟩)
    clear hE3 hO3 hF3 C
    go_wp2
    go_end0
    exact ⟨rfl, FIN.out⟩

theorem beforeElement0 (b : Nat) (cp : Bool) (v : Value) (em : Bool) (w : World) (h : EncS w b cp v 0 em) : Calls Tryf.prog 18 #[.pointer (some ⟨b, 0, none⟩)] w fun e w' => e = .returned (.tuple #[]) ∧ w' = w := by
  have h2 := h.c2
  go_enter Tryf.func18, Tryf.ntmps18
  go_wp2
  (try simp only [Exit.inBlock, Exit.then])
  refine bodyPost_ret (results_none rfl _ _ _) rfl ?_
  exact ⟨rfl, rfl⟩

theorem beforeValue0 (b : Nat) (cp : Bool) (v : Value) (em : Bool) (w : World) (h : EncS w b cp v 0 em) : Calls Tryf.prog 14 #[.pointer (some ⟨b, 0, none⟩)] w fun e w' => e = .returned (.tuple #[]) ∧ w' = w := by
  have h4 := h.c4
  have C := beforeElement0 b cp v em w h
  go_enter Tryf.func14, Tryf.ntmps14
  go_wp2_with (go_at_call 18; refine C.mono ?_; rintro e w' ⟨rfl, rfl⟩)
  go_end0
  exact ⟨rfl, rfl⟩

theorem beforeValue (B b : Nat) (cp : Bool) (v : Value) (l : List UInt8) (em : Bool) (w : World) (h : EncS w b cp v 1 em) (ho : OwnB w B v l) (hb : b < B) (hB : B ≤ w.heap.size) (hl : l.length ≤ 900000000) :
    Calls Tryf.prog 14 #[.pointer (some ⟨b, 0, none⟩)] w fun e w' => e = .returned (.tuple #[]) ∧ ∃ v', EncS w' b cp v' 1 false ∧ OwnB w' B v' (l ++ sep cp em) ∧ Fr B b w w' := by
  have h4 := h.c4
  have C := beforeElement B b cp v l em w h ho hb hB hl
  clear h ho
  go_enter Tryf.func14, Tryf.ntmps14
  go_wp2_with fail
  refine C.mono ?_
  rintro e w3 ⟨rfl, h⟩
  have FIN := Lib.hid h
  clear h C
  go_wp2
  go_end0
  exact ⟨rfl, FIN.out⟩
end Go.Proofs.Qxb6615779aFmt
