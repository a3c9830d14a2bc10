import Derived.Test.Qxb6615779aDoorEnc
namespace Go.Proofs.Qxb6615779aDoor
open Go.RowKit Go.Shelf

theorem law_below {w w1 w2 w3 w4 w5 w6 : World} {b : Nat} (hb : b = w.heap.size) (h1 : w.grownBy w1 none) (h2 : w1.grownBy w2 (some b)) (h3 : w2.grownBy w3 none) (h4 : w3.grownBy w4 (some w2.heap.size)) (h5 : w4.grownBy w5 none) (h6 : w5.grownBy w6 (some w4.heap.size)) : Below w.heap.size w w6 := by
  have s1 := h1.size
  have s2 := h2.size
  have s3 := h3.size
  have s4 := h4.size
  have s5 := h5.size
  have B1 : Below w.heap.size w w1 := (Below.refl _ _).grown h1 (Nat.le_refl _) (by simp)
  have B2 := B1.grown h2 s1 (fun k hk => by cases hk; omega)
  have B3 := B2.grown h3 (by omega) (by simp)
  have B4 := B3.grown h4 (by omega) (fun k hk => by cases hk; omega)
  have B5 := B4.grown h5 (by omega) (by simp)
  exact B5.grown h6 (by omega) (fun k hk => by cases hk; omega)
theorem grown_of_below {w w' : World} (h : Below w.heap.size w w') : w.grownBy w' none := ⟨h.os, h.tape, h.output, h.size, fun k hk _ => h.block k hk⟩

theorem digits_at (b cap g : Nat) (zs : List Int) (p K : Nat) (R : IsRun zs p K) (X Y P : Int) (hP : P = (p : Int)) (hX : X = (K : Int)) (hY : Y = ((p + K : Nat) : Int)) (w : World) (hd : Dec w b (.slice (some ⟨g, 0, none⟩) zs.length cap) P) (hl : zs.length ≤ 1048576) (hg : g < b) (hz : BytesAt w (some ⟨g, 0, none⟩) zs) :
    Calls Tryd.prog 7 #[.pointer (some ⟨b, 0, none⟩)] w fun e w' => e = .returned (.int .i64 X) ∧ w.grownBy w' (some b) ∧ Dec w' b (.slice (some ⟨g, 0, none⟩) zs.length cap) Y := by
  subst hP; subst hX; subst hY
  refine (zzdigits b cap _ zs p w hd (by have := R.1; omega) hl (fun x hx => by cases hx; exact Nat.ne_of_lt hg) hz).mono fun e w' ⟨k, he, hR, hG, hD⟩ => ?_
  obtain rfl := run_unique hR R
  exact ⟨he, hG, hD⟩

set_option maxRecDepth 100000 in
set_option maxHeartbeats 2000000 in
theorem law_any (n : Int) (h0 : -9223372036854775808 ≤ n) (h1 : n ≤ 9223372036854775807) (w : World) (htab : Lib.TabIs Tryd.prog w powN .u64 Lib.pow10Tab) :
    Calls Tryd.prog 3 #[.int .i64 n] w fun e w' => e = .returned (.bool true) ∧ Below w.heap.size w w' := by
  obtain ⟨w1, hw1⟩ : ∃ w1, w1 = w.alloc (.cells #[.bool false, .slice none 0 0, .int .i64 0, .bool false, .bool false, .nilIface] 27) := ⟨_, rfl⟩
  have hB1 : Below w.heap.size w w1 := by rw [hw1]; exact (Below.refl _ _).alloc (Nat.le_refl _) _
  have hE : Enc w1 w.heap.size := by rw [hw1]; exact ⟨by simp, by simp, by simp, by simp⟩
  have hT : Lib.TabIs Tryd.prog w1 powN .u64 Lib.pow10Tab := (Lib.tabBelow_of_tabIs htab) w1 hB1
  have C4 := encInt w.heap.size n h0 h1 w1 hE hT
  have HW := Lib.hid hw1
  have HG1 := Lib.hid (grown_of_below hB1)
  have HD21 := Lib.hid (nDigits_le n h0 h1)
  clear hT htab hE hB1 hw1
  go_enter Tryd.func3, Tryd.ntmps3
  go_wp2_with fail
  rw [← HW.out]
  refine C4.mono ?_
  rintro e w2 ⟨rfl, g, cap, hc, hO, hG2⟩
  have C5 := encBuf w.heap.size _ w2 hc
  obtain ⟨hBy, hgl⟩ := bytes_of_own hO
  obtain ⟨zs, hzs⟩ : ∃ zs, zs = nums (Lib.itoa n) := ⟨_, rfl⟩
  have hlen : (Lib.itoa n).length = zs.length := by rw [hzs]; simp [nums]
  rw [hlen] at C5
  rw [← hzs] at hBy
  have HL := Lib.hid hlen
  have HZ := Lib.hid hzs
  have HB := Lib.hid hBy
  have HG2 := Lib.hid hG2
  have HGL := Lib.hid hgl
  clear C4 hc hO hBy hlen hzs hG2 hgl
  go_wp2_with fail
  refine C5.mono ?_
  rintro e w3 ⟨rfl, rfl⟩
  clear C5
  obtain ⟨D, hD⟩ : ∃ D, D = Lib.nDigits n.natAbs := ⟨_, rfl⟩
  have HD := Lib.hid hD
  have HD21' : Hid (D ≤ 21) := (show D ≤ 21 by rw [hD]; exact HD21.out)
  clear hD HD21
  go_wp2_with fail
  go_loop [5, 6] (fun cv qv => ∃ (i : Nat) (m : Int), cv = .int .i64 (i : Int) ∧ qv = .int .i64 m ∧ i + Lib.nDigits m.natAbs = D ∧ -9223372036854775808 ≤ m ∧ m ≤ 9223372036854775807) (fun _ qv => (intOf qv).natAbs)
  case atStart => exact ⟨0, n, rfl, rfl, by rw [HD.out]; omega, h0, h1⟩
  case round =>
    obtain ⟨i, m, rfl, rfl, hi, m0, m1⟩ := hrel
    have HI := Lib.hid hi
    have hpos := Lib.nDigits_pos m.natAbs
    have wi : IntKind.i64.wrap ((i : Int) + 1) = (i : Int) + 1 := by have := HD21'.out; rw [IntKind.wrap_i64]; omega
    have hnat : (m.tdiv 10).natAbs = m.natAbs / 10 := by rw [Int.natAbs_tdiv]; rfl
    have wq : IntKind.i64.wrap (m.tdiv 10) = m.tdiv 10 := by rw [IntKind.wrap_i64]; omega
    have hst := nDigits_step m.natAbs
    clear hi
    by_cases hq : m.natAbs < 10
    · have hq0 : m.tdiv 10 = 0 := by omega
      have hfin : i + 1 = D := by have := HI.out; have := hst.1 hq; omega
      have HF := Lib.hid hfin
      clear hfin hnat hst wq
      have bq : (m.tdiv 10 == 0) = true := by rw [hq0]; rfl
      by_cases hneg : n < 0
      · have hlenD : zs.length = D + 1 := by rw [HZ.out, HD.out]; exact len_neg n hneg
        have R0 : Hid (IsRun zs 0 0) := (show IsRun zs 0 0 by rw [HZ.out]; exact run_neg0 n hneg)
        have R1 : Hid (IsRun zs 1 D) := (show IsRun zs 1 D by rw [HZ.out, HD.out]; exact run_neg1 n hneg)
        have HLD := Lib.hid hlenD
        have hz2 : (zs.length : Int) = 1 + ((i : Int) + 1) := by have := HF.out; omega
        have HZ2 := Lib.hid hz2
        have bz : ((zs.length : Int) != 1 + ((i : Int) + 1)) = false := by rw [hz2]; simp
        have wl : IntKind.i64.wrap (1 + ((i : Int) + 1)) = 1 + ((i : Int) + 1) := by have := HD21'.out; have := HF.out; rw [IntKind.wrap_i64]; omega
        clear hlenD hz2
        have C6 := newDecoderAt (some ⟨g, 0, none⟩) zs.length cap 0 w3
        go_wp2_with fail
        refine C6.mono ?_
        rintro e w4 ⟨rfl, hB4, hS4, hD4⟩
        have G4 := grown_of_below hB4
        have HB4 : Hid (BytesAt w4 (some ⟨g, 0, none⟩) zs) := HB.out.kept G4 (fun x _ => by simp)
        have C7 := digits_at w3.heap.size cap g zs 0 0 (by have := R0.out; first | exact this | (rw [← HF.out] at this; exact this)) 0 0 0 (by simp) (by simp) (by simp) w4 hD4 (by have := HLD.out; have := HD21'.out; omega) HGL.out HB4.out
        have HG4 := Lib.hid G4
        have HGL4 : Hid (g < w4.heap.size) := (show g < w4.heap.size by have := HGL.out; omega)
        clear C6 hB4 hS4 hD4 G4
        go_wp2_with (go_at_call 7; refine C7.mono ?_; rintro e w5 ⟨rfl, hG5, hD5⟩; have C8 := zzpos _ _ _ w5 hD5; refine Hid.out ?_)
        refine Lib.hid ?_
        have HB5 : Hid (BytesAt w5 (some ⟨g, 0, none⟩) zs) := HB4.out.kept hG5 (fun x hx e => by cases hx; exact absurd (show g = w3.heap.size from Option.some.inj e) (Nat.ne_of_lt HGL.out))
        have HG5 := Lib.hid hG5
        have HGL5 : Hid (g < w5.heap.size) := (show g < w5.heap.size by have := HGL4.out; have := hG5.size; omega)
        clear C7 hG5 hD5
        go_wp2_with (go_at_call 8; refine C8.mono ?_; rintro e w6 ⟨rfl, rfl⟩; refine Hid.out ?_)
        refine Lib.hid ?_
        clear C8
        have C6 := newDecoderAt (some ⟨g, 0, none⟩) zs.length cap 1 w6
        go_wp2_with fail
        refine C6.mono ?_
        rintro e w7 ⟨rfl, hB7, hS7, hD7⟩
        have G7 := grown_of_below hB7
        have HB7 : Hid (BytesAt w7 (some ⟨g, 0, none⟩) zs) := HB5.out.kept G7 (fun x _ => by simp)
        have C7 := digits_at w6.heap.size cap g zs 1 (i + 1) (by have := R1.out; rw [← HF.out] at this; exact this) ((i : Int) + 1) (zs.length : Int) 1 (by simp) (by simp) (by have := HLD.out; have := HF.out; omega) w7 hD7 (by have := HLD.out; have := HD21'.out; omega) HGL5.out HB7.out
        have HG7 := Lib.hid G7
        clear C6 hB7 hS7 hD7 G7
        go_wp2_with (go_at_call 7; refine C7.mono ?_; rintro e w8 ⟨rfl, hG8, hD8⟩; have C8 := zzpos _ _ _ w8 hD8; refine Hid.out ?_)
        refine Lib.hid ?_
        have BEL : Hid (Below w.heap.size w w8) := law_below rfl HG1.out HG2.out HG4.out HG5.out HG7.out hG8
        clear C7 hG8 hD8
        go_wp2_with (go_at_call 8; refine C8.mono ?_; rintro e w9 ⟨rfl, rfl⟩)
        go_ret
        exact ⟨rfl, BEL.out⟩
      · have hlenD : zs.length = D := by rw [HZ.out, HD.out]; exact len_nonneg n hneg
        have R0 : Hid (IsRun zs 0 D) := (show IsRun zs 0 D by rw [HZ.out, HD.out]; exact run_nonneg n hneg)
        have R1 : Hid (IsRun zs 0 D) := (show IsRun zs 0 D by rw [HZ.out, HD.out]; exact run_nonneg n hneg)
        have HLD := Lib.hid hlenD
        have hz2 : (zs.length : Int) = (i : Int) + 1 := by have := HF.out; omega
        have HZ2 := Lib.hid hz2
        have bz : ((zs.length : Int) != (i : Int) + 1) = false := by rw [hz2]; simp
        have wl : IntKind.i64.wrap (1 + ((i : Int) + 1)) = 1 + ((i : Int) + 1) := by have := HD21'.out; have := HF.out; rw [IntKind.wrap_i64]; omega
        clear hlenD hz2
        have C6 := newDecoderAt (some ⟨g, 0, none⟩) zs.length cap 0 w3
        go_wp2_with fail
        refine C6.mono ?_
        rintro e w4 ⟨rfl, hB4, hS4, hD4⟩
        have G4 := grown_of_below hB4
        have HB4 : Hid (BytesAt w4 (some ⟨g, 0, none⟩) zs) := HB.out.kept G4 (fun x _ => by simp)
        have C7 := digits_at w3.heap.size cap g zs 0 (i + 1) (by have := R0.out; first | exact this | (rw [← HF.out] at this; exact this)) ((i : Int) + 1) ((i : Int) + 1) 0 (by simp) (by simp) (by simp) w4 hD4 (by have := HLD.out; have := HD21'.out; omega) HGL.out HB4.out
        have HG4 := Lib.hid G4
        have HGL4 : Hid (g < w4.heap.size) := (show g < w4.heap.size by have := HGL.out; omega)
        clear C6 hB4 hS4 hD4 G4
        go_wp2_with (go_at_call 7; refine C7.mono ?_; rintro e w5 ⟨rfl, hG5, hD5⟩; have C8 := zzpos _ _ _ w5 hD5; refine Hid.out ?_)
        refine Lib.hid ?_
        have HB5 : Hid (BytesAt w5 (some ⟨g, 0, none⟩) zs) := HB4.out.kept hG5 (fun x hx e => by cases hx; exact absurd (show g = w3.heap.size from Option.some.inj e) (Nat.ne_of_lt HGL.out))
        have HG5 := Lib.hid hG5
        have HGL5 : Hid (g < w5.heap.size) := (show g < w5.heap.size by have := HGL4.out; have := hG5.size; omega)
        clear C7 hG5 hD5
        go_wp2_with (go_at_call 8; refine C8.mono ?_; rintro e w6 ⟨rfl, rfl⟩; refine Hid.out ?_)
        refine Lib.hid ?_
        clear C8
        have C6 := newDecoderAt (some ⟨g, 0, none⟩) zs.length cap 0 w6
        go_wp2_with fail
        refine C6.mono ?_
        rintro e w7 ⟨rfl, hB7, hS7, hD7⟩
        have G7 := grown_of_below hB7
        have HB7 : Hid (BytesAt w7 (some ⟨g, 0, none⟩) zs) := HB5.out.kept G7 (fun x _ => by simp)
        have C7 := digits_at w6.heap.size cap g zs 0 (i + 1) (by have := R1.out; rw [← HF.out] at this; exact this) ((i : Int) + 1) (zs.length : Int) 0 (by simp) (by simp) (by have := HLD.out; have := HF.out; omega) w7 hD7 (by have := HLD.out; have := HD21'.out; omega) HGL5.out HB7.out
        have HG7 := Lib.hid G7
        clear C6 hB7 hS7 hD7 G7
        go_wp2_with (go_at_call 7; refine C7.mono ?_; rintro e w8 ⟨rfl, hG8, hD8⟩; have C8 := zzpos _ _ _ w8 hD8; refine Hid.out ?_)
        refine Lib.hid ?_
        have BEL : Hid (Below w.heap.size w w8) := law_below rfl HG1.out HG2.out HG4.out HG5.out HG7.out hG8
        clear C7 hG8 hD8
        go_wp2_with (go_at_call 8; refine C8.mono ?_; rintro e w9 ⟨rfl, rfl⟩)
        go_ret
        exact ⟨rfl, BEL.out⟩
    · have hq0 : m.tdiv 10 ≠ 0 := by omega
      have bq : (m.tdiv 10 == 0) = false := by simpa using hq0
      have hr : i + 1 + Lib.nDigits (m.tdiv 10).natAbs = D := by rw [hnat]; have := HI.out; have := hst.2 hq; omega
      have HR := Lib.hid hr
      have HB1 : Hid (-9223372036854775808 ≤ m.tdiv 10 ∧ m.tdiv 10 ≤ 9223372036854775807 ∧ (m.tdiv 10).natAbs < m.natAbs) := (show _ ∧ _ ∧ _ from ⟨by omega, by omega, by omega⟩)
      clear hr hst hnat
      go_wp2_with fail
      go_round
      case rel => exact ⟨i + 1, m.tdiv 10, by go_num, rfl, HR.out, HB1.out.1, HB1.out.2.1⟩
      case measure => exact HB1.out.2.2
end Go.Proofs.Qxb6615779aDoor
