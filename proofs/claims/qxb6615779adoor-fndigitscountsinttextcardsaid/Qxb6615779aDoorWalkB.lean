import Derived.Test.Qxb6615779aDoorWalkA
import Derived.BigQuiet
namespace Go.Proofs.Qxb6615779aDoor
open Go.RowKit

theorem grown_setD {w w' : World} {b : Nat} (h : w.grownBy w' (some b)) (u : Value) (j : Nat) : w.grownBy (w'.setCell ⟨b, j, none⟩ u) (some b) :=
  ⟨h.os, h.tape, h.output, by simpa using h.size, fun k hk hn => by rw [Below.heap_setCell _ _ _ _ (fun e => hn (by rw [e])), h.block k hk hn]⟩
theorem grown_drew {w w' : World} {row : Option Nat} (h : w.grownBy w' row) : w.grownBy w'.drew row := ⟨h.os, h.tape, h.output, h.size, h.block⟩
theorem Dec.drew {w : World} {b : Nat} {s : Value} {p : Int} (h : Dec w b s p) : Dec w.drew b s p := ⟨h.data, h.pos, h.thaw⟩
theorem Dec.move {w : World} {b : Nat} {s : Value} {p : Int} (h : Dec w b s p) (q : Int) : Dec (w.setCell ⟨b, 3, none⟩ (.int .i64 q)) b s q :=
  ⟨(cell_off (by decide)).trans h.data, World.cell?_setCell_same _ _ _ h.pos, by simpa using h.thaw⟩

theorem grown_drewN {w w' : World} {row : Option Nat} (h : w.grownBy w' row) (n : Nat) : w.grownBy (w'.drewN n) row := ⟨h.os, h.tape, h.output, h.size, h.block⟩
theorem Dec.drewN {w : World} {b : Nat} {s : Value} {p : Int} (h : Dec w b s p) (n : Nat) : Dec (w.drewN n) b s p := ⟨h.data, h.pos, h.thaw⟩

/-- The Decoder's place, off the world. -/
def posOf (w : World) (b : Nat) : Nat := match w.cell? ⟨b, 3, none⟩ with
  | some v => (intOf v).toNat
  | none => 0
theorem posOf_dec {w : World} {b : Nat} {s : Value} {p : Nat} (h : Dec w b s p) : posOf w b = p := by
  unfold posOf
  rw [h.pos]
  simp [intOf]

theorem run_end {w w' : World} {b p q k : Nat} {s : Value} {zs : List Int} (hq : q = p + k) (hk : q ≤ zs.length) (hr : ∀ i, p ≤ i → i < q → isD (zs.getD i 0) = true) (hn : q < zs.length → isD (zs.getD q 0) = false) (hg : w.grownBy w' (some b)) (hd : Dec w' b s q) :
    ∃ k' : Nat, Ending.returned (.int .i64 (k : Int)) = .returned (.int .i64 (k' : Int)) ∧ IsRun zs p k' ∧ w.grownBy w' (some b) ∧ Dec w' b s ((p + k' : Nat) : Int) := by
  subst hq
  exact ⟨k, rfl, ⟨hk, hr, hn⟩, hg, hd⟩

set_option maxRecDepth 100000 in
set_option maxHeartbeats 1000000 in
/-- (*Decoder).digits, the data not empty. -/
theorem digits_some (b x c : Nat) (zs : List Int) (p : Nat) (w : World) (hd : Dec w b (.slice (some ⟨x, 0, none⟩) zs.length c) p) (hp : p ≤ zs.length) (hl : zs.length ≤ 1048576) (hx : x ≠ b)
    (hz : ∀ j (h : j < zs.length), w.cell? ⟨x, j, none⟩ = some (.int .u8 zs[j])) :
    Calls Tryd.prog 12 #[.pointer (some ⟨b, 0, none⟩)] w fun e w' => ∃ k : Nat, e = .returned (.int .i64 k) ∧ IsRun zs p k ∧ w.grownBy w' (some b) ∧ Dec w' b (.slice (some ⟨x, 0, none⟩) zs.length c) ((p + k : Nat) : Int) := by
  have h3 := hd.pos
  have HZ : Hid (∀ j (h : j < zs.length), w.cell? ⟨x, j, none⟩ = some (.int .u8 zs[j])) := hz
  have HD : Hid (Dec w b (.slice (some ⟨x, 0, none⟩) zs.length c) p) := hd
  clear hz hd
  go_enter Tryd.func12, Tryd.ntmps12
  go_wp2_with fail
  clear h3
  go_loopw [] (fun wr => ∃ k : Nat, p + k ≤ zs.length ∧ (∀ i, p ≤ i → i < p + k → isD (zs.getD i 0) = true) ∧ w.grownBy wr (some b) ∧ Dec wr b (.slice (some ⟨x, 0, none⟩) zs.length c) ((p + k : Nat) : Int)) (fun wr => zs.length - posOf wr b)
  case atStart => exact ⟨0, hp, fun i h1 h2 => by omega, World.grownBy.refl _ _, HD.out⟩
  case round =>
    obtain ⟨k, hk, hrun, hg, hD⟩ := hrel
    obtain ⟨q, hq⟩ : ∃ q, q = p + k := ⟨_, rfl⟩
    rw [← hq] at hk hrun hD
    have HQ : Hid (q = p + k) := hq
    have d2 := hD.data
    have d3 := hD.pos
    have df := hD.thaw
    have HR : Hid (∀ i, p ≤ i → i < q → isD (zs.getD i 0) = true) := hrun
    have HG : Hid (w.grownBy wr (some b)) := hg
    have HDD : Hid (Dec wr b (.slice (some ⟨x, 0, none⟩) zs.length c) (q : Int)) := hD
    have HP : Hid (posOf wr b = q) := posOf_dec hD
    clear hrun hg hD hq
    by_cases hlt : q < zs.length
    · have hcell : wr.cell? ⟨x, q, none⟩ = some (.int .u8 zs[q]) := by
        have h0 := HZ.out q hlt
        have hxl : x < w.heap.size := World.block_lt_of_cell? w _ h0
        exact (World.cell?_of_block (w := w) (HG.out.block x hxl (by intro e; injection e; omega))).trans h0
      have gD : zs.getD q 0 = zs[q] := by simp [hlt]
      obtain ⟨z, hz⟩ : ∃ z, z = zs[q] := ⟨_, rfl⟩
      rw [← hz] at hcell gD
      clear hz
      have wq : IntKind.i64.wrap ((q : Int) + 1) = (q : Int) + 1 := by rw [IntKind.wrap_i64]; omega
      have hgd : decide ((q : Int) < (zs.length : Int)) = true := by simp; omega
      have HGD : Hid (zs.getD q 0 = z) := gD
      clear gD
      by_cases h1 : 48 ≤ z
      · have g1 : decide (48 ≤ z) = true := by simp [h1]
        by_cases h2 : z ≤ 57
        · have g2 : decide (z ≤ 57) = true := by simp [h2]
          go_wp2_with fail
          go_quiet (fail)
          go_wp2
          go_roundw
          case rel => exact ⟨k + 1, by have := HQ.out; omega, fun i i1 i2 => by
              have := HQ.out
              by_cases hi : i < q
              · exact HR.out i i1 hi
              · obtain rfl : i = q := by omega
                rw [HGD.out]; simp [isD, h1, h2], grown_setD (grown_drewN HG.out _) _ _, by
              have := HQ.out
              rw [show p + (k + 1) = q + 1 by omega]
              exact (HDD.out.drewN _).move _⟩
          case measure =>
            show zs.length - posOf _ b < zs.length - posOf _ b
            have e : ∀ n, posOf ((World.drewN wr n).setCell ⟨b, 3, none⟩ (.int .i64 ((q : Int) + 1))) b = q + 1 := fun n => posOf_dec (p := q + 1) ((HDD.out.drewN n).move _)
            rw [HP.out, e]
            omega
        · have g2 : decide (z ≤ 57) = false := by simp; omega
          have HN : Hid (isD z = false) := (show isD z = false by simp [isD, g2])
          have ws : IntKind.i64.wrap ((q : Int) - (p : Int)) = (k : Int) := by have := HQ.out; rw [IntKind.wrap_i64]; omega
          go_wp2_with fail
          go_quiet (fail)
          go_wp2
          go_ret
          exact run_end HQ.out hk HR.out (fun _ => by rw [HGD.out]; exact HN.out) (grown_drewN HG.out _) (HDD.out.drewN _)
      · have g1 : decide (48 ≤ z) = false := by simp; omega
        have HN : Hid (isD z = false) := (show isD z = false by simp [isD, g1])
        have ws : IntKind.i64.wrap ((q : Int) - (p : Int)) = (k : Int) := by have := HQ.out; rw [IntKind.wrap_i64]; omega
        go_wp2_with fail
        go_quiet (fail)
        go_wp2
        go_ret
        exact run_end HQ.out hk HR.out (fun _ => by rw [HGD.out]; exact HN.out) (grown_drewN HG.out _) (HDD.out.drewN _)
    · have hgd : decide ((q : Int) < (zs.length : Int)) = false := by simp; omega
      have ws : IntKind.i64.wrap ((q : Int) - (p : Int)) = (k : Int) := by have := HQ.out; rw [IntKind.wrap_i64]; omega
      go_wp2_with fail
      go_quiet (fail)
      go_wp2
      go_ret
      exact run_end HQ.out hk HR.out (fun h => absurd h hlt) (grown_drewN HG.out _) (HDD.out.drewN _)

set_option maxRecDepth 100000 in
set_option maxHeartbeats 1000000 in
/-- .. the data empty. -/
theorem digits_nil (b c : Nat) (a : Option Addr) (w : World) (hd : Dec w b (.slice a 0 c) 0) :
    Calls Tryd.prog 12 #[.pointer (some ⟨b, 0, none⟩)] w fun e w' => e = .returned (.int .i64 0) ∧ ∃ n, w' = w.drewN n := by
  have h2 := hd.data
  have h3 := hd.pos
  clear hd
  go_enter Tryd.func12, Tryd.ntmps12
  go_wp2_with fail
  refine wp_loop_rounds 1 ?_
  rw [rounds_succ]
  go_wp2_with fail
  go_quiet (fail)
  go_wp2
  go_ret
  exact ⟨rfl, _, rfl⟩

/-- (*Decoder).digits. -/
theorem digits_any (b c : Nat) (a : Option Addr) (zs : List Int) (p : Nat) (w : World) (hd : Dec w b (.slice a zs.length c) p) (hp : p ≤ zs.length) (hl : zs.length ≤ 1048576) (hx : ∀ x, a = some x → x.block ≠ b) (hz : BytesAt w a zs) :
    Calls Tryd.prog 12 #[.pointer (some ⟨b, 0, none⟩)] w fun e w' => ∃ k : Nat, e = .returned (.int .i64 k) ∧ IsRun zs p k ∧ w.grownBy w' (some b) ∧ Dec w' b (.slice a zs.length c) ((p + k : Nat) : Int) := by
  rcases hz with rfl | ⟨x, rfl, hz⟩
  · obtain rfl : p = 0 := by simpa using hp
    refine (digits_nil b c a w hd).mono fun e w' ⟨he, n, hw⟩ => ⟨0, he, ⟨by simp, fun i h1 h2 => by omega, fun h => by simp at h⟩, ?_, ?_⟩
    · rw [hw]; exact grown_drewN (World.grownBy.refl _ _) n
    · rw [hw]; exact hd.drewN n
  · exact digits_some b x c zs p w hd hp hl (hx _ rfl) hz

set_option maxRecDepth 100000 in
/-- ZZdigits. -/
theorem zzdigits (b c : Nat) (a : Option Addr) (zs : List Int) (p : Nat) (w : World) (hd : Dec w b (.slice a zs.length c) p) (hp : p ≤ zs.length) (hl : zs.length ≤ 1048576) (hx : ∀ x, a = some x → x.block ≠ b) (hz : BytesAt w a zs) :
    Calls Tryd.prog 7 #[.pointer (some ⟨b, 0, none⟩)] w fun e w' => ∃ k : Nat, e = .returned (.int .i64 k) ∧ IsRun zs p k ∧ w.grownBy w' (some b) ∧ Dec w' b (.slice a zs.length c) ((p + k : Nat) : Int) := by
  have C := digits_any b c a zs p w hd hp hl hx hz
  clear hd hz hx
  go_enter Tryd.func7, Tryd.ntmps7
  go_wp2_with fail
  refine C.mono ?_
  rintro e w1 ⟨k, rfl, hr, hg, hD⟩
  have H : Hid (IsRun zs p k ∧ w.grownBy w1 (some b) ∧ Dec w1 b (.slice a zs.length c) ((p + k : Nat) : Int)) := ⟨hr, hg, hD⟩
  clear hr hg hD C
  go_wp2
  go_ret
  exact ⟨k, rfl, H.out⟩

end Go.Proofs.Qxb6615779aDoor
