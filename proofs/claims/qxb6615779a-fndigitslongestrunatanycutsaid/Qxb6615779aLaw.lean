import Derived.Test.Qxb6615779aPlain
namespace Go.Proofs.Qxb6615779a
open Go.RowKit

theorem own_cap {w : World} {B : Nat} {a : Option Addr} {c : Nat} {zs : List Int} (h : OwnB w B (.slice a zs.length c) zs) : zs.length ≤ c := by
  rcases h.2 with ⟨hv, hn⟩ | ⟨g, cap, cur, hv, hB, hg, hc, _⟩
  · omega
  · cases hv; exact hc

theorem law_below {w w1 w2 w4 w5 w6 w7 w8 : World} (h1 : w.grownBy w1 none) (h2 : w1.grownBy w2 none) (h3 : w2.grownBy w4 (some w1.heap.size)) (h5 : w4.grownBy w5 none) (h6 : w5.grownBy w6 (some w4.heap.size)) (h7 : w6.grownBy w7 none) (h8 : w7.grownBy w8 (some w6.heap.size)) : Below w.heap.size w w8 := by
  have s1 := h1.size
  have s2 := h2.size
  have s3 := h3.size
  have s5 := h5.size
  have s6 := h6.size
  have s7 := h7.size
  have B1 : Below w.heap.size w w1 := (Below.refl _ _).grown h1 (Nat.le_refl _) (by simp)
  have B2 := B1.grown h2 s1 (by simp)
  have B3 := B2.grown h3 (by omega) (fun k hk => by cases hk; exact s1)
  have B5 := B3.grown h5 (by omega) (by simp)
  have B6 := B5.grown h6 (by omega) (fun k hk => by cases hk; omega)
  have B7 := B6.grown h7 (by omega) (by simp)
  exact B7.grown h8 (by omega) (fun k hk => by cases hk; omega)

set_option maxRecDepth 100000 in
set_option maxHeartbeats 2000000 in
theorem law_main (a0 : Option Addr) (cap0 : Nat) (zs : List Int) (s u : Nat) (w : World) (hI : IntsAt w a0 zs) (hN : zs.length ≤ 1048576) (hsu : s ≤ u) (hu : u ≤ zs.length)
    (hb : Calls Try.prog 4 #[.slice a0 zs.length cap0, .int .i64 s, .int .i64 u] w fun e w' => e = .returned (.bool true) ∧ w' = w) :
    Calls Try.prog 3 #[.slice a0 zs.length cap0, .int .i64 s, .int .i64 u] w fun e w' => e = .returned (.bool true) ∧ Below w.heap.size w w' := by
  have C5 := clone_any a0 cap0 zs w hI hN
  clear hI
  have b1 : decide ((1048576 : Int) < (zs.length : Int)) = false := by simp; omega
  have b2 : decide ((s : Int) < 0) = false := by simp
  have b3 : decide (zs.length < s) = false := by simp; omega
  have b4 : decide (u < s) = false := by simp; omega
  have b5 : decide (zs.length < u) = false := by simp; omega
  have HN : Hid (zs.length ≤ 1048576 ∧ s ≤ u ∧ u ≤ zs.length) := ⟨hN, hsu, hu⟩
  clear hN hsu hu
  go_enter Try.func3, Try.ntmps3
  go_wp2_with fail
  refine hb.mono ?_
  rintro e w' ⟨rfl, rfl⟩
  clear hb
  go_wp2_with fail
  refine C5.mono ?_
  rintro e w1 ⟨a, c, rfl, hO, hG1⟩
  clear C5
  have HB : Hid (BytesAt w1 a zs) := bytes_of_own hO
  have HX : Hid (∀ x, a = some x → x.block < w1.heap.size) := own_block hO
  have HC : Hid (zs.length ≤ c) := own_cap hO
  have HG1 : Hid (w'.grownBy w1 none) := hG1
  clear hO hG1
  have C6 := newDecoderAt a zs.length c s w1
  go_wp2_with fail
  refine C6.mono ?_
  rintro e w2 ⟨rfl, hB2, hS2, hD2⟩
  have G2 : w1.grownBy w2 none := ⟨hB2.os, hB2.tape, hB2.output, hB2.size, fun k hk _ => hB2.block k hk⟩
  have C7 := zzdigits w1.heap.size c a zs s w2 hD2 (by have := HN.out; omega) HN.out.1 (fun x hx => Nat.ne_of_lt (HX.out x hx)) (HB.out.kept G2 (fun x _ => by simp))
  have HG2 : Hid (w1.grownBy w2 none) := G2
  clear C6 hB2 hS2 hD2 G2
  go_wp2_with fail
  refine C7.mono ?_
  rintro e w3 ⟨k, rfl, hR3, hG3, hD3⟩
  clear C7
  have C8 := zzpos w1.heap.size _ _ w3 hD3
  go_wp2_with fail
  refine C8.mono ?_
  rintro e w4 ⟨rfl, rfl⟩
  clear C8 hD3
  have HB3 : Hid (BytesAt w4 a zs) := (HB.out.kept HG2.out (fun x _ => by simp)).kept hG3 (fun x hx e => by injection e with e; have := HX.out x hx; omega)
  have HG3 : Hid (w2.grownBy w4 (some w1.heap.size)) := hG3
  have HR3 : Hid (IsRun zs s k) := hR3
  have q1 : (s : Int) + (k : Int) ≤ zs.length := by have := hR3.1; omega
  clear hG3 hR3
  have b6 : decide ((k : Int) < 0) = false := by simp
  have e1 : IntKind.i64.wrap ((zs.length : Int) - (s : Int)) = (zs.length : Int) - s := by have := HN.out; rw [IntKind.wrap_i64]; omega
  have e2 : IntKind.i64.wrap ((s : Int) + (k : Int)) = (s : Int) + k := by have := HN.out; rw [IntKind.wrap_i64]; omega
  have b7 : decide ((zs.length : Int) - s < (k : Int)) = false := by simp; omega
  go_wp2_with fail
  go_loop [10] (fun v => ∃ j : Nat, s ≤ j ∧ j ≤ s + k ∧ v = .int .i64 (j : Int)) (fun v => s + k - (intOf v).toNat)
  case atStart => exact ⟨s, Nat.le_refl _, by omega, rfl⟩
  case round =>
    obtain ⟨j, hj1, hj2, rfl⟩ := hrel
    by_cases hlt : j < s + k
    · have hjN : j < zs.length := by have := HR3.out.1; omega
      have hDj : isD (zs.getD j 0) = true := HR3.out.2.1 j hj1 hlt
      rcases HB3.out with h0 | ⟨g, rfl, hcells⟩
      · rw [h0] at hjN; simp at hjN
      have hcell := hcells j hjN
      have gD : zs.getD j 0 = zs[j] := by simp [hjN]
      rw [gD] at hDj
      have C9 := isDigit9 zs[j] w4
      rw [hDj] at C9
      have q2 : (j : Int) < (s : Int) + k := by omega
      have wj : IntKind.i64.wrap ((j : Int) + 1) = (j : Int) + 1 := by have := HN.out; rw [IntKind.wrap_i64]; omega
      clear hcells gD hDj
      generalize zs[j] = z at hcell C9
      go_wp2_with (go_at_call 9; refine C9.mono ?_; rintro e w5 ⟨rfl, rfl⟩)
      go_round
      case rel => exact ⟨j + 1, by omega, by omega, by go_num⟩
      case measure => simp [intOf]; omega
    · obtain rfl : j = s + k := by omega
      have q2 : ¬ (((s + k : Nat) : Int) < (s : Int) + k) := by omega
      have huc : u ≤ c := by have := HN.out; have := HC.out; omega
      have hmap : Option.map (fun x : Addr => x.add 0) a = a := by cases a <;> simp [Addr.add]
      have HL : Hid ((zs.take u).length = u) := (show (zs.take u).length = u by have := HN.out; simp; omega)
      have HX4 : Hid (∀ x, a = some x → x.block < w4.heap.size) := fun x hx => by have := HX.out x hx; have := HG2.out.size; have := HG3.out.size; omega
      have C6 := newDecoderAt a u c s w4
      by_cases hend : s + k < zs.length
      · have b8 : decide ((s : Int) + (k : Int) < (zs.length : Int)) = true := by simp; omega
        have hDj : isD (zs.getD (s + k) 0) = false := HR3.out.2.2 hend
        rcases HB3.out with h0 | ⟨g, ha, hcells⟩
        · rw [h0] at hend; simp at hend
        have hcell := hcells (s + k) hend
        have gD : zs.getD (s + k) 0 = zs[s + k] := by simp [hend]
        rw [gD] at hDj
        have C9 := isDigit9 zs[s + k] w4
        rw [hDj] at C9
        clear hcells gD hDj
        generalize zs[s + k] = z at hcell C9
        subst ha
        go_wp2_with (go_at_call 9; refine C9.mono ?_; rintro e w4 ⟨rfl, rfl⟩)
        refine C6.mono ?_
        rintro e w5 ⟨rfl, hB5, hS5, hD5⟩
        have G5 : w4.grownBy w5 none := ⟨hB5.os, hB5.tape, hB5.output, hB5.size, fun k hk _ => hB5.block k hk⟩
        have HB5 : Hid (BytesAt w5 (some ⟨g, 0, none⟩) zs) := HB3.out.kept G5 (fun x _ => by simp)
        have C7 := zzdigits w4.heap.size c (some ⟨g, 0, none⟩) (zs.take u) s w5 (by rw [HL.out]; exact hD5) (by rw [HL.out]; exact HN.out.2.1) (by rw [HL.out]; have := HN.out; omega) (fun x hx => Nat.ne_of_lt (HX4.out x hx)) (HB5.out.cut u)
        rw [HL.out] at C7
        have HG5 : Hid (w4.grownBy w5 none) := G5
        have HX5 : Hid (∀ x, (some ⟨g, 0, none⟩ : Option Addr) = some x → x.block < w4.heap.size ∧ x.block < w5.heap.size) := fun x hx => ⟨HX4.out x hx, by have := HX4.out x hx; omega⟩
        clear C6 hB5 hS5 hD5 G5
        go_wp2_with fail
        refine C7.mono ?_
        rintro e w6 ⟨k2, rfl, hR6, hG6, _⟩
        have HB6 : Hid (BytesAt w6 (some ⟨g, 0, none⟩) zs) := HB5.out.kept hG6 (fun x hx e => by injection e with e; have := HX5.out x hx; omega)
        have HR6 : Hid (IsRun (zs.take u) s k2) := hR6
        have HG6 : Hid (w5.grownBy w6 (some w4.heap.size)) := hG6
        have HX6 : Hid (∀ x, (some ⟨g, 0, none⟩ : Option Addr) = some x → x.block < w6.heap.size) := fun x hx => by have := (HX5.out x hx).2; have := hG6.size; omega
        have k2b : (s : Int) + (k2 : Int) ≤ u := by have := hR6.1; rw [HL.out] at this; omega
        clear C7 hR6 hG6
        have C6 := newDecoderAt (some ⟨g, 0, none⟩) zs.length c u w6
        go_wp2_with fail
        refine C6.mono ?_
        rintro e w7 ⟨rfl, hB7, hS7, hD7⟩
        have G7 : w6.grownBy w7 none := ⟨hB7.os, hB7.tape, hB7.output, hB7.size, fun k hk _ => hB7.block k hk⟩
        have C7 := zzdigits w6.heap.size c (some ⟨g, 0, none⟩) zs u w7 hD7 HN.out.2.2 HN.out.1 (fun x hx => Nat.ne_of_lt (HX6.out x hx)) (HB6.out.kept G7 (fun x _ => by simp))
        have HG7 : Hid (w6.grownBy w7 none) := G7
        clear C6 hB7 hS7 hD7 G7
        go_wp2_with fail
        refine C7.mono ?_
        rintro e w8 ⟨k3, rfl, hR8, hG8, _⟩
        have HR8 : Hid (IsRun zs u k3) := hR8
        have HG8 : Hid (w7.grownBy w8 (some w6.heap.size)) := hG8
        have k3b : (u : Int) + (k3 : Int) ≤ zs.length := by have := hR8.1; omega
        clear C7 hR8 hG8
        have HP := run_cut HN.out.2.1 HN.out.2.2 HR3.out HR6.out HR8.out
        have e3 : IntKind.i64.wrap ((u : Int) - (s : Int)) = (u : Int) - s := by have := HN.out; rw [IntKind.wrap_i64]; omega
        have e4 : IntKind.i64.wrap ((u : Int) - (s : Int) + (k3 : Int)) = (u : Int) - s + k3 := by have := HN.out; rw [IntKind.wrap_i64]; omega
        have BEL : Hid (Below w'.heap.size w' w8) := law_below HG1.out HG2.out HG3.out HG5.out HG6.out HG7.out HG8.out
        by_cases hge : u - s ≤ k2
        · have b9 : decide ((u : Int) - s ≤ (k2 : Int)) = true := by simp; omega
          have f9 : (k : Int) = (u : Int) - s + k3 := by have := HP.1 hge; have := HN.out; omega
          have b10 : ((k : Int) == (u : Int) - s + k3) = true := by simp [f9]
          clear HP f9
          go_wp2
          go_ret
          exact ⟨rfl, BEL.out⟩
        · have b9 : decide ((u : Int) - s ≤ (k2 : Int)) = false := by simp; omega
          have f9 : (k : Int) = (k2 : Int) := by have := HP.2 (by omega); omega
          have b10 : decide ((k : Int) = (k2 : Int)) = true := by simp [f9]
          clear HP
          go_wp2
          go_ret
          exact ⟨rfl, BEL.out⟩
      · have b8 : decide ((s : Int) + (k : Int) < (zs.length : Int)) = false := by simp; omega
        go_wp2_with fail
        refine C6.mono ?_
        rintro e w5 ⟨rfl, hB5, hS5, hD5⟩
        have G5 : w4.grownBy w5 none := ⟨hB5.os, hB5.tape, hB5.output, hB5.size, fun k hk _ => hB5.block k hk⟩
        have HB5 : Hid (BytesAt w5 a zs) := HB3.out.kept G5 (fun x _ => by simp)
        have C7 := zzdigits w4.heap.size c a (zs.take u) s w5 (by rw [HL.out]; exact hD5) (by rw [HL.out]; exact HN.out.2.1) (by rw [HL.out]; have := HN.out; omega) (fun x hx => Nat.ne_of_lt (HX4.out x hx)) (HB5.out.cut u)
        rw [HL.out] at C7
        have HG5 : Hid (w4.grownBy w5 none) := G5
        have HX5 : Hid (∀ x, a = some x → x.block < w4.heap.size ∧ x.block < w5.heap.size) := fun x hx => ⟨HX4.out x hx, by have := HX4.out x hx; omega⟩
        clear C6 hB5 hS5 hD5 G5
        go_wp2_with fail
        refine C7.mono ?_
        rintro e w6 ⟨k2, rfl, hR6, hG6, _⟩
        have HB6 : Hid (BytesAt w6 a zs) := HB5.out.kept hG6 (fun x hx e => by injection e with e; have := HX5.out x hx; omega)
        have HR6 : Hid (IsRun (zs.take u) s k2) := hR6
        have HG6 : Hid (w5.grownBy w6 (some w4.heap.size)) := hG6
        have HX6 : Hid (∀ x, a = some x → x.block < w6.heap.size) := fun x hx => by have := (HX5.out x hx).2; have := hG6.size; omega
        have k2b : (s : Int) + (k2 : Int) ≤ u := by have := hR6.1; rw [HL.out] at this; omega
        clear C7 hR6 hG6
        have C6 := newDecoderAt a zs.length c u w6
        go_wp2_with fail
        refine C6.mono ?_
        rintro e w7 ⟨rfl, hB7, hS7, hD7⟩
        have G7 : w6.grownBy w7 none := ⟨hB7.os, hB7.tape, hB7.output, hB7.size, fun k hk _ => hB7.block k hk⟩
        have C7 := zzdigits w6.heap.size c a zs u w7 hD7 HN.out.2.2 HN.out.1 (fun x hx => Nat.ne_of_lt (HX6.out x hx)) (HB6.out.kept G7 (fun x _ => by simp))
        have HG7 : Hid (w6.grownBy w7 none) := G7
        clear C6 hB7 hS7 hD7 G7
        go_wp2_with fail
        refine C7.mono ?_
        rintro e w8 ⟨k3, rfl, hR8, hG8, _⟩
        have HR8 : Hid (IsRun zs u k3) := hR8
        have HG8 : Hid (w7.grownBy w8 (some w6.heap.size)) := hG8
        have k3b : (u : Int) + (k3 : Int) ≤ zs.length := by have := hR8.1; omega
        clear C7 hR8 hG8
        have HP := run_cut HN.out.2.1 HN.out.2.2 HR3.out HR6.out HR8.out
        have e3 : IntKind.i64.wrap ((u : Int) - (s : Int)) = (u : Int) - s := by have := HN.out; rw [IntKind.wrap_i64]; omega
        have e4 : IntKind.i64.wrap ((u : Int) - (s : Int) + (k3 : Int)) = (u : Int) - s + k3 := by have := HN.out; rw [IntKind.wrap_i64]; omega
        have BEL : Hid (Below w'.heap.size w' w8) := law_below HG1.out HG2.out HG3.out HG5.out HG6.out HG7.out HG8.out
        by_cases hge : u - s ≤ k2
        · have b9 : decide ((u : Int) - s ≤ (k2 : Int)) = true := by simp; omega
          have f9 : (k : Int) = (u : Int) - s + k3 := by have := HP.1 hge; have := HN.out; omega
          have b10 : ((k : Int) == (u : Int) - s + k3) = true := by simp [f9]
          clear HP f9
          go_wp2
          go_ret
          exact ⟨rfl, BEL.out⟩
        · have b9 : decide ((u : Int) - s ≤ (k2 : Int)) = false := by simp; omega
          have f9 : (k : Int) = (k2 : Int) := by have := HP.2 (by omega); omega
          have b10 : decide ((k : Int) = (k2 : Int)) = true := by simp [f9]
          clear HP
          go_wp2
          go_ret
          exact ⟨rfl, BEL.out⟩

set_option maxRecDepth 100000 in
set_option maxHeartbeats 2000000 in
theorem law_any (a0 : Option Addr) (cap0 : Nat) (zs : List Int) (x y : Int) (w : World) (hI : IntsAt w a0 zs) :
    Calls Try.prog 3 #[.slice a0 zs.length cap0, .int .i64 x, .int .i64 y] w fun e w' => e = .returned (.bool true) ∧ Below w.heap.size w w' := by
  obtain ⟨b, hb⟩ := bytes4 a0 zs.length cap0 x y w
  cases b
  · go_enter Try.func3, Try.ntmps3
    go_wp2_with (go_at_call 4; refine hb.mono ?_; rintro e w' ⟨rfl, rfl⟩)
    go_ret
    exact ⟨rfl, Below.refl _ _⟩
  · by_cases q1 : (1048576 : Int) < (zs.length : Int)
    · go_enter Try.func3, Try.ntmps3
      go_wp2_with (go_at_call 4; refine hb.mono ?_; rintro e w' ⟨rfl, rfl⟩)
      go_ret
      exact ⟨rfl, Below.refl _ _⟩
    by_cases q2 : x < 0
    · go_enter Try.func3, Try.ntmps3
      go_wp2_with (go_at_call 4; refine hb.mono ?_; rintro e w' ⟨rfl, rfl⟩)
      go_ret
      exact ⟨rfl, Below.refl _ _⟩
    by_cases q3 : (zs.length : Int) < x
    · go_enter Try.func3, Try.ntmps3
      go_wp2_with (go_at_call 4; refine hb.mono ?_; rintro e w' ⟨rfl, rfl⟩)
      go_ret
      exact ⟨rfl, Below.refl _ _⟩
    by_cases q4 : y < x
    · go_enter Try.func3, Try.ntmps3
      go_wp2_with (go_at_call 4; refine hb.mono ?_; rintro e w' ⟨rfl, rfl⟩)
      go_ret
      exact ⟨rfl, Below.refl _ _⟩
    by_cases q5 : (zs.length : Int) < y
    · go_enter Try.func3, Try.ntmps3
      go_wp2_with (go_at_call 4; refine hb.mono ?_; rintro e w' ⟨rfl, rfl⟩)
      go_ret
      exact ⟨rfl, Below.refl _ _⟩
    obtain ⟨s, rfl⟩ : ∃ s : Nat, x = (s : Int) := ⟨x.toNat, by omega⟩
    obtain ⟨u, rfl⟩ : ∃ u : Nat, y = (u : Int) := ⟨y.toNat, by omega⟩
    exact law_main a0 cap0 zs s u w hI (by omega) (by omega) (by omega) hb
end Go.Proofs.Qxb6615779a
