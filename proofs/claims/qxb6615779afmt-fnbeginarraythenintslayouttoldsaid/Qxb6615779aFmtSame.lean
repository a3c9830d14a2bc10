import Derived.Test.Qxb6615779aFmtAppB
namespace Go.Proofs.Qxb6615779aFmt
open Go.RowKit Go.Shelf

/-- zzAppendInt. -/
theorem zzAppendInt (B : Nat) (x : Int) (h0 : -9223372036854775808 ≤ x) (h1 : x ≤ 9223372036854775807) (v : Value) (l : List UInt8) (w : World) (ho : OwnB w B v l) (hB : B ≤ w.heap.size) (hl : l.length ≤ 1000000000) :
    Calls Tryf.prog 7 #[v, .int .i64 x] w fun e w' => ∃ v', e = .returned v' ∧ OwnB w' B v' (l ++ Lib.itoa x) ∧ Below B w w' := by
  by_cases hx : x < 0
  · have e : Lib.itoa x = 45 :: Lib.decDigits x.natAbs := by unfold Lib.itoa; rw [if_pos hx]
    rw [e]
    exact appNeg B x v l x.natAbs (by omega) w ho hB hl hx (by omega)
  · have e : Lib.itoa x = Lib.decDigits x.natAbs := by unfold Lib.itoa; rw [if_neg hx]; congr 1; omega
    rw [e]
    exact appLoop B x v l x.natAbs (by omega) w ho hB hl hx (by omega)

/-- A slice reads as bytes. -/
def ByAt (w : World) (a : Option Addr) (l : List UInt8) : Prop := l = [] ∨ ∃ b, a = some ⟨b, 0, none⟩ ∧ ∀ j (h : j < l.length), w.cell? ⟨b, j, none⟩ = some (.int .u8 (l[j].toNat : Int))
theorem OwnB.byAt {w : World} {B : Nat} {a : Option Addr} {c : Nat} {l : List UInt8} (h : OwnB w B (.slice a l.length c) l) : ByAt w a l := by
  rcases h.2 with ⟨hv, hn⟩ | ⟨g, cap, cur, hv, hB, hg, _, _, _, htake⟩
  · exact .inl (List.length_eq_zero_iff.1 hn)
  · cases hv
    refine .inr ⟨g, rfl, fun j hj => ?_⟩
    have e : (cur.toList.take (l.length * 1))[j]? = some (.int .u8 (l[j].toNat : Int)) := by rw [htake]; simp [Lib.byteCells, hj]
    rw [List.getElem?_take_of_lt (by omega)] at e
    simpa [World.cell?, hg] using e

set_option maxRecDepth 100000 in
set_option maxHeartbeats 1000000 in
/-- zzSameBytes at two slices of the same bytes. -/
theorem sameBytes (a b : Option Addr) (c d : Nat) (l : List UInt8) (w : World) (ha : ByAt w a l) (hb : ByAt w b l) (hl : l.length ≤ 1000000000) :
    Calls Tryf.prog 9 #[.slice a l.length c, .slice b l.length d] w fun e w' => e = .returned (.bool true) ∧ ∃ n, w' = w.drewN n := by
  have HA := Lib.hid ha
  have HB := Lib.hid hb
  clear ha hb
  go_enter Tryf.func9, Tryf.ntmps9
  go_wp2_with fail
  go_loopw [5] (fun iv wr => ∃ (k n : Nat), k ≤ l.length ∧ iv = .int .i64 (k : Int) ∧ wr = w.drewN n) (fun iv _ => l.length - (intOf iv).toNat)
  case atStart => exact ⟨0, 0, Nat.zero_le _, rfl, rfl⟩
  case round =>
    obtain ⟨k, n, hk, rfl, rfl⟩ := hrel
    by_cases hlt : k < l.length
    · rcases HA.out with h0 | ⟨g, rfl, hga⟩
      · rw [h0] at hlt; simp at hlt
      rcases HB.out with h0 | ⟨g', rfl, hgb⟩
      · rw [h0] at hlt; simp at hlt
      have x1 := hga k hlt
      have x2 := hgb k hlt
      have wk : IntKind.i64.wrap ((k : Int) + 1) = (k : Int) + 1 := by rw [IntKind.wrap_i64]; omega
      clear hga hgb
      generalize (l[k].toNat : Int) = z at x1 x2
      go_wp2_with fail
      go_quiet (fail)
      go_wp2_with fail
      go_roundw
      case rel => exact ⟨k + 1, _, by omega, by go_num, rfl⟩
      case measure => simp [intOf]; omega
    · go_wp2
      go_ret
      exact ⟨rfl, n, rfl⟩
end Go.Proofs.Qxb6615779aFmt
