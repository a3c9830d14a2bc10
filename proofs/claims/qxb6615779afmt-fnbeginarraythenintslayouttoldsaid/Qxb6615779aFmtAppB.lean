import Derived.Test.Qxb6615779aFmtApp
import Derived.Laws.BitsAllLaws
import Derived.Laws.DeepNot64
namespace Go.Proofs.Qxb6615779aFmt
open Go.RowKit Go.Shelf

theorem u64_not (a : Nat) (ha : a < 18446744073709551616) : bits .xor .u64 IntKind.u64.max (a : Int) = 18446744073709551615 - (a : Int) := by
  show IntKind.u64.wrap ((BitVec.ofInt 64 IntKind.u64.max ^^^ BitVec.ofInt 64 (a : Int)).toNat : Int) = _
  have h1 : BitVec.ofInt 64 IntKind.u64.max = BitVec.allOnes 64 := by decide
  rw [h1, BitVec.allOnes_xor, BitVec.toNat_not, ofInt_u64 a (by omega)]
  rw [IntKind.wrap_u64]
  omega

set_option maxRecDepth 100000 in
set_option maxHeartbeats 2000000 in
theorem appNeg (B : Nat) (x : Int) (v : Value) (l : List UInt8) (M : Nat) (hM : M ≤ 9223372036854775808) (w : World) (ho : OwnB w B v l) (hB : B ≤ w.heap.size) (hl : l.length ≤ 1000000000) (hx : x < 0) (hxM : x = -(M : Int)) :
    Calls Tryf.prog 7 #[v, .int .i64 x] w fun e w' => ∃ v', e = .returned v' ∧ OwnB w' B v' (l ++ 45 :: Lib.decDigits M) ∧ Below B w w' := by
  obtain ⟨i0, hi, hz0, hz1, hz2⟩ := info_parts info5
  have HO := Lib.hid ho
  obtain ⟨a, c, rfl⟩ := ho.shape
  clear ho
  have wu : IntKind.u64.wrap x = x + 18446744073709551616 := by rw [IntKind.wrap_u64]; omega
  have HX := Lib.hid hxM
  have HM := Lib.hid hM
  clear hxM hM
  go_enter Tryf.func7, Tryf.ntmps7
  go_wp2_with (at_builtin; refine wpList_append_own _ rfl _ _ 25 rfl B 5 i0 (.int .u8 0) 1 1 Tryf.underlying25 hi hz0 hz1 hz2 rfl (by decide) _ _ _ rfl (HO.out.alloc _) ⟨w.heap.size, 0, none⟩ 1 1 [Value.int .u8 45] rfl rfl (by intro j u' hj; match j, hj with | 0, hj => simp at hj; subst hj; simp [Addr.add]) (by intro u' hu'; simp at hu'; subst hu'; rfl) (by unfold maxLen; omega) (by omega) (by simp; omega) ?_; intro v1 w0 hown1 hgrow1 _; refine Hid.out ?_)
  refine Lib.hid ?_
  have hO1' : OwnB w0 B v1 (l ++ [45]) := own_next (m := [45]) hown1
  have hB0 : Below B w w0 := ((Below.refl B w).alloc hB _).grown hgrow1 (by simp; omega) HO.out.row
  have hB' : B ≤ w0.heap.size := Nat.le_trans hB hB0.size
  obtain ⟨l1, hl1⟩ : ∃ l1, l1 = l ++ [45] := ⟨_, rfl⟩
  rw [← hl1] at hO1'
  have HL1 := Lib.hid hl1
  have HL1n : Hid (l1.length ≤ 1000000001) := (show l1.length ≤ 1000000001 by rw [hl1]; simp; omega)
  have hlt := hO1'.lt
  obtain ⟨a1, c1, hv1⟩ := hO1'.shape
  subst hv1
  have HB0 := Lib.hid hB0
  clear HO hown1 hgrow1 hl1 hB0 hB hl
  have HO := Lib.hid hO1'
  have hB := hB'
  clear hO1' hB'
  have wn : IntKind.u64.wrap (bits BinOp.xor IntKind.u64 IntKind.u64.max (x + 18446744073709551616) + 1) = (M : Int) := by
    have hx' := HX.out
    have hm := HM.out
    obtain ⟨y, hy⟩ : ∃ y : Nat, x + 18446744073709551616 = (y : Int) := ⟨(x + 18446744073709551616).toNat, by omega⟩
    rw [hy, u64_not y (by omega), IntKind.wrap_u64]
    omega
  go_wp2_with fail
  have hz20 : ∃ cs : Array Value, (w0.alloc (.cells #[.int .u8 0, .int .u8 0, .int .u8 0, .int .u8 0, .int .u8 0, .int .u8 0, .int .u8 0, .int .u8 0, .int .u8 0, .int .u8 0, .int .u8 0, .int .u8 0, .int .u8 0, .int .u8 0, .int .u8 0, .int .u8 0, .int .u8 0, .int .u8 0, .int .u8 0, .int .u8 0] 41)).heap[w0.heap.size]? = some (.cells cs 41 (0, 0)) ∧ cs.size = 20 := ⟨_, heap_alloc_new w0 _, rfl⟩
  obtain ⟨w1, hw1⟩ : ∃ w1, w1 = w0.alloc (.cells #[.int .u8 0, .int .u8 0, .int .u8 0, .int .u8 0, .int .u8 0, .int .u8 0, .int .u8 0, .int .u8 0, .int .u8 0, .int .u8 0, .int .u8 0, .int .u8 0, .int .u8 0, .int .u8 0, .int .u8 0, .int .u8 0, .int .u8 0, .int .u8 0, .int .u8 0, .int .u8 0] 41) := ⟨_, rfl⟩
  rw [← hw1] at hz20 ⊢
  have hO1 : OwnB w1 B (.slice a1 l1.length c1) l1 := by rw [hw1]; exact HO.out.alloc _
  have hB1 : Below B w0 w1 := by rw [hw1]; exact (Below.refl _ _).alloc hB _
  have hT1 : w0.heap.size < w1.heap.size := by rw [hw1]; simp
  obtain ⟨T, hT⟩ : ∃ T, T = w0.heap.size := ⟨_, rfl⟩
  rw [← hT] at hz20 hT1 hB hlt ⊢
  have HLT := Lib.hid hlt
  clear hlt
  have HT := Lib.hid hT
  have HO1 := Lib.hid hO1
  have HB1 := Lib.hid hB1
  clear hw1 hT hO1 hB1 HO
  obtain ⟨cs, hcs, hcs20⟩ := hz20
  go_loopw [5, 7] (fun uv iv wr => ∃ (m j : Nat) (tl : List UInt8) (cur : Array Value), uv = .int .u64 (m : Int) ∧ iv = .int .i64 (j : Int) ∧ Lib.decDigits M = Lib.decDigits m ++ tl ∧ j + tl.length = 20 ∧ m ≤ 9223372036854775808 ∧ wr.heap[T]? = some (.cells cur 41 (0, 0)) ∧ cur.size = 20 ∧ (∀ t, t < tl.length → cur[j + t]? = (tl[t]?).map fun c => Value.int .u8 c.toNat) ∧ w1.grownBy wr (some T)) (fun uv _ _ => (intOf uv).toNat)
  case atStart => exact ⟨M, 20, [], cs, rfl, rfl, by simp, rfl, HM.out, hcs, hcs20, fun t ht => by simp at ht, World.grownBy.refl _ _⟩
  case round =>
    obtain ⟨m, j, tl, cur, rfl, rfl, hd, hj, hm, hcur, hc20, hct, hg⟩ := hrel
    have hnd : Lib.nDigits m + tl.length ≤ 20 := by
      have h1 := congrArg List.length hd
      rw [List.length_append, Lib.decDigits_length, Lib.decDigits_length] at h1
      have := nd20 M HM.out
      omega
    have hnp := Lib.nDigits_pos m
    obtain ⟨j', rfl⟩ : ∃ j', j = j' + 1 := ⟨j - 1, by omega⟩
    obtain ⟨old, hold⟩ : ∃ old, cur[j']? = some old := ⟨cur[j']'(by omega), by simp⟩
    have hcell : wr.cell? ⟨T, j', none⟩ = some old := by simp [World.cell?, hcur, hold]
    have hfro : wr.frozen? ⟨T, j', none⟩ = false := by simp [World.frozen?, hcur]
    have HD := Lib.hid hd
    have HC := Lib.hid (show cur.size = 20 ∧ (∀ t, t < tl.length → cur[j' + 1 + t]? = (tl[t]?).map fun c => Value.int .u8 c.toNat) from ⟨hc20, hct⟩)
    have HU := Lib.hid hcur
    have HG := Lib.hid hg
    have HJ := Lib.hid hj
    have HMm := Lib.hid hm
    have b20 : j' < 20 := by omega
    have e4 : IntKind.u64.wrap ((m : Int) / 10) = (m : Int) / 10 := by rw [IntKind.wrap_u64]; omega
    have e5 : IntKind.i64.wrap ((j' : Int)) = (j' : Int) := by rw [IntKind.wrap_i64]; omega
    clear hd hj hm hcur hc20 hct hg hnd hnp hold
    have hsl := slice41 T j' b20
    have hdd : (UInt8.ofNat (48 + m % 10)).toNat = 48 + m % 10 := by rw [UInt8.toNat_ofNat']; omega
    have HDD := Lib.hid hdd
    clear hdd
    by_cases hm10 : m < 10
    · have bz : ((m : Int) / 10 == 0) = true := by simp; omega
      obtain ⟨W2, hW2⟩ : ∃ W2, W2 = wr.setCell ⟨T, j', none⟩ (.int .u8 (48 + (m : Int) % 10)) := ⟨_, rfl⟩
      have hdig := (dec_step HD.out).1 hm10
      have hlen : (Lib.decDigits M).length = 20 - j' := by rw [hdig, List.length_cons]; have := HJ.out; omega
      have hcells : ∀ t u, (Lib.byteCells (Lib.decDigits M))[t]? = some u → W2.cell? ((⟨T, j', none⟩ : Addr).add t) = some u := by
        intro t u hu
        rw [hW2]
        exact app_cells HU.out HC.out.1 HC.out.2 (by have := HJ.out; omega) hdig HDD.out t u hu
      have hg2 : w1.grownBy W2 (some T) := by rw [hW2]; exact gb_setT HG.out _ _
      have hO2 : OwnB W2 B (.slice a1 l1.length c1) l1 := HO1.out.kept hg2 (fun k hk e => by cases e; exact absurd (HLT.out T hk) (Nat.lt_irrefl _))
      have hBW : B ≤ W2.heap.size := by have := hg2.size; have := HB1.out.size; have := HT.out; omega
      have hBel : Below B w0 W2 := HB1.out.grown hg2 (by have := HT.out; have := HB1.out.size; omega) (fun k hk => by cases hk; exact hB)
      have hlb : (Lib.decDigits M).length ≤ 20 := by omega
      obtain ⟨D, hD⟩ : ∃ D, D = Lib.decDigits M := ⟨_, rfl⟩
      rw [← hD] at hcells hlen hlb
      have HDe := Lib.hid hD
      have HW2 := Lib.hid hW2
      have HO2 := Lib.hid hO2
      have HCs := Lib.hid hcells
      have HBel := Lib.hid hBel
      have HLn := Lib.hid hlen
      clear hdig hcells hg2 hO2 hBel hlen hW2 hD
      go_wp2_with (at_builtin; rw [← HW2.out]; refine wpList_append_own _ rfl _ _ 25 rfl B 5 i0 (.int .u8 0) 1 1 Tryf.underlying25 hi hz0 hz1 hz2 rfl (by decide) _ _ _ rfl HO2.out ⟨T, j', none⟩ (20 - j') (20 - j') (Lib.byteCells D) rfl (by rw [Lib.byteCells_length, HLn.out]; omega) HCs.out (Lib.byteCells_one D) (by unfold maxLen; have := HL1n.out; omega) (by have := HL1n.out; omega) hBW ?_; intro v1 w3 hown1 hgrow1 _; refine Hid.out ?_)
      refine Lib.hid ?_
      rw [← HLn.out] at hown1
      have hO3 : OwnB w3 B v1 (l1 ++ D) := own_next hown1
      have hB3 : Below B w0 w3 := HBel.out.grown hgrow1 hBW HO2.out.row
      have FIN := Lib.hid (show OwnB w3 B v1 (l1 ++ Lib.decDigits M) ∧ Below B w0 w3 from ⟨by rw [← HDe.out]; exact hO3, hB3⟩)
      clear hown1 hgrow1 hO3 hB3
      go_wp2
      go_ret
      exact ⟨_, rfl, by rw [show l ++ 45 :: Lib.decDigits M = l1 ++ Lib.decDigits M by rw [HL1.out]; simp]; exact FIN.out.1, HB0.out.trans FIN.out.2⟩
    · have bz : ((m : Int) / 10 == 0) = false := by simp; omega
      have hdig := (dec_step HD.out).2 hm10
      have HDig := Lib.hid hdig
      clear hdig hsl
      go_wp2_with fail
      go_roundw
      case rel => exact ⟨m / 10, j', UInt8.ofNat (48 + m % 10) :: tl, cur.setIfInBounds j' (.int .u8 (48 + (m : Int) % 10)), by simp, rfl, HDig.out, by have := HJ.out; simp; omega, by have := HMm.out; omega, heap_setCell_same wr T j' cur 41 _ HU.out, by simpa using HC.out.1, app_row HC.out.1 HC.out.2 b20 HDD.out, gb_setT HG.out _ _⟩
      case measure => simp [intOf]; omega
end Go.Proofs.Qxb6615779aFmt
