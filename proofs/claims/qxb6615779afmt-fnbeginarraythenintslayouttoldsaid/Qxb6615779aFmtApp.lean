import Derived.Test.Qxb6615779aFmtEncC
namespace Go.Proofs.Qxb6615779aFmt
open Go.RowKit Go.Shelf

theorem dec_step {M m : Nat} {tl : List UInt8} (h : Lib.decDigits M = Lib.decDigits m ++ tl) :
    (m < 10 → Lib.decDigits M = UInt8.ofNat (48 + m % 10) :: tl) ∧ (¬ m < 10 → Lib.decDigits M = Lib.decDigits (m / 10) ++ (UInt8.ofNat (48 + m % 10) :: tl)) := by
  constructor
  · intro hm
    rw [h, Lib.decDigits, dif_pos hm, Nat.mod_eq_of_lt hm]; rfl
  · intro hm
    rw [h]
    conv => lhs; rw [Lib.decDigits, dif_neg hm]
    simp

theorem nd20 (M : Nat) (h : M ≤ 9223372036854775808) : Lib.nDigits M ≤ 20 := by
  have h1 := Lib.itoa_length_le (-(M : Int)) (by omega) (by omega)
  by_cases hM : 1 ≤ M
  · rw [Lib.itoa_neg M hM, List.length_cons, Lib.decDigits_length] at h1; omega
  · obtain rfl : M = 0 := by omega
    rw [Lib.nDigits_small (by omega)]; omega

theorem slice41 (T j : Nat) (hj : j < 20) (W : World) : (Instr.sliceAt 41 (.pointer (some ⟨T, 0, none⟩)) (some (.int .i64 (j : Int))) none none).run Tryf.prog W = .ok (.slice (some ⟨T, j, none⟩) (20 - j) (20 - j)) W := by
  have hu : Tryf.prog.underlying 41 = some (.array (Tryf.prog.arrayLen 41) (Tryf.prog.elem 41)) := by kernel_rfl
  have ha : Tryf.prog.arrayLen 41 = 20 := by kernel_rfl
  have hs : (sizeOf (Tryf.prog.elem 41)).run Tryf.prog W = .ok 1 W := by kernel_rfl
  rw [run_sliceAt_array_l W 41 _ hu .i64 (j : Int) (by omega) (by rw [ha]; omega), hs, ha]
  have hne : ¬ 20 = j := by omega
  simp [slicedAt, Result.andThen, Addr.add, hne]
  exact fun h => h.symm
theorem addr_add (T j t : Nat) : (⟨T, j, none⟩ : Addr).add t = ⟨T, j + t, none⟩ := by unfold Addr.add; split <;> simp_all
theorem gb_setT {w w' : World} {T : Nat} (h : w.grownBy w' (some T)) (j : Nat) (u : Value) : w.grownBy (w'.setCell ⟨T, j, none⟩ u) (some T) :=
  ⟨h.os, h.tape, h.output, by simpa using h.size, fun k hk hn => by rw [Below.heap_setCell _ _ _ _ (fun e => hn (by rw [e])), h.block k hk hn]⟩
theorem OwnB.lt {w : World} {B : Nat} {v : Value} {l : List UInt8} (h : OwnB w B v l) : ∀ k, v.ownBlock = some k → k < w.heap.size := by
  intro k hk
  rcases h.2 with ⟨hv, hn⟩ | ⟨g, cap, cur, hv, hB, hg, _⟩
  · rw [hv] at hk; cases hk
  · rw [hv] at hk; cases hk
    rcases Nat.lt_or_ge g w.heap.size with h | h
    · exact h
    · rw [Array.getElem?_eq_none h] at hg; cases hg
theorem OwnB.kept {w w' : World} {B : Nat} {v : Value} {l : List UInt8} {row : Option Nat} (h : OwnB w B v l) (hg : w.grownBy w' row) (hr : ∀ k, v.ownBlock = some k → row ≠ some k) : OwnB w' B v l := by
  have hlt := h.lt
  refine ⟨h.1, ?_⟩
  rcases h.2 with h | ⟨g, cap, cur, hv, hB, hgg, r⟩
  · exact .inl h
  · refine .inr ⟨g, cap, cur, hv, hB, ?_, r⟩
    have hk : v.ownBlock = some g := by rw [hv]; rfl
    rw [hg.block g (hlt g hk) (fun e => hr g hk e.symm)]
    exact hgg
theorem app_row {cur : Array Value} {j m : Nat} {tl : List UInt8} (hs : cur.size = 20) (hc : ∀ t, t < tl.length → cur[j + 1 + t]? = (tl[t]?).map fun c => Value.int .u8 c.toNat) (hj : j < 20) (hd : (UInt8.ofNat (48 + m % 10)).toNat = 48 + m % 10) :
    ∀ t, t < (UInt8.ofNat (48 + m % 10) :: tl).length → (cur.setIfInBounds j (.int .u8 (48 + (m : Int) % 10)))[j + t]? = ((UInt8.ofNat (48 + m % 10) :: tl)[t]?).map fun c => Value.int .u8 c.toNat := by
  intro t ht
  cases t with
  | zero =>
    rw [Nat.add_zero, Array.getElem?_setIfInBounds_self_of_lt (by omega)]
    simp only [List.getElem?_cons_zero, Option.map_some, hd]
    congr 2
  | succ t =>
    rw [Array.getElem?_setIfInBounds_ne (by omega), show j + (t + 1) = j + 1 + t by omega, hc t (by simpa using ht)]
    simp
theorem app_cells {wr : World} {T j m : Nat} {cur : Array Value} {tl : List UInt8} {M : Nat} (hu : wr.heap[T]? = some (.cells cur 41 (0, 0))) (hs : cur.size = 20) (hc : ∀ t, t < tl.length → cur[j + 1 + t]? = (tl[t]?).map fun c => Value.int .u8 c.toNat) (hj : j < 20)
    (hM : Lib.decDigits M = UInt8.ofNat (48 + m % 10) :: tl) (hd : (UInt8.ofNat (48 + m % 10)).toNat = 48 + m % 10) :
    ∀ t u, (Lib.byteCells (Lib.decDigits M))[t]? = some u → (wr.setCell ⟨T, j, none⟩ (.int .u8 (48 + (m : Int) % 10))).cell? ((⟨T, j, none⟩ : Addr).add t) = some u := by
  intro t u h
  rw [hM] at h
  have ht : t < (UInt8.ofNat (48 + m % 10) :: tl).length := by
    have := (List.getElem?_eq_some_iff.1 h).1
    simpa [Lib.byteCells] using this
  have hr := app_row hs hc hj hd t ht
  have hh := heap_setCell_same wr T j cur 41 (.int .u8 (48 + (m : Int) % 10)) hu
  rw [addr_add]
  simp only [World.cell?, hh]
  rw [← h]
  simp only [Lib.byteCells, List.getElem?_map]
  exact hr

set_option maxRecDepth 100000 in
set_option maxHeartbeats 2000000 in
/-- The digits' loop and the last append, from the number's size. -/
theorem appLoop (B : Nat) (x : Int) (v : Value) (l : List UInt8) (M : Nat) (hM : M ≤ 9223372036854775808) (w : World) (ho : OwnB w B v l) (hB : B ≤ w.heap.size) (hl : l.length ≤ 1000000000) (hx : ¬ x < 0) (hxM : x = (M : Int)) :
    Calls Tryf.prog 7 #[v, .int .i64 x] w fun e w' => ∃ v', e = .returned v' ∧ OwnB w' B v' (l ++ Lib.decDigits M) ∧ Below B w w' := by
  obtain ⟨i0, hi, hz0, hz1, hz2⟩ := info_parts info5
  have HO := Lib.hid ho
  have hlt := ho.lt
  obtain ⟨a, c, rfl⟩ := ho.shape
  clear ho
  have wu : IntKind.u64.wrap x = x := by rw [IntKind.wrap_u64]; omega
  have HX := Lib.hid hxM
  have HM := Lib.hid hM
  clear hxM hM
  go_enter Tryf.func7, Tryf.ntmps7
  go_wp2_with fail
  have hz20 : ∃ cs : Array Value, (w.alloc (.cells #[.int .u8 0, .int .u8 0, .int .u8 0, .int .u8 0, .int .u8 0, .int .u8 0, .int .u8 0, .int .u8 0, .int .u8 0, .int .u8 0, .int .u8 0, .int .u8 0, .int .u8 0, .int .u8 0, .int .u8 0, .int .u8 0, .int .u8 0, .int .u8 0, .int .u8 0, .int .u8 0] 41)).heap[w.heap.size]? = some (.cells cs 41 (0, 0)) ∧ cs.size = 20 := ⟨_, heap_alloc_new w _, rfl⟩
  obtain ⟨w1, hw1⟩ : ∃ w1, w1 = w.alloc (.cells #[.int .u8 0, .int .u8 0, .int .u8 0, .int .u8 0, .int .u8 0, .int .u8 0, .int .u8 0, .int .u8 0, .int .u8 0, .int .u8 0, .int .u8 0, .int .u8 0, .int .u8 0, .int .u8 0, .int .u8 0, .int .u8 0, .int .u8 0, .int .u8 0, .int .u8 0, .int .u8 0] 41) := ⟨_, rfl⟩
  rw [← hw1] at hz20 ⊢
  have hO1 : OwnB w1 B (.slice a l.length c) l := by rw [hw1]; exact HO.out.alloc _
  have hB1 : Below B w w1 := by rw [hw1]; exact (Below.refl _ _).alloc hB _
  have hT1 : w.heap.size < w1.heap.size := by rw [hw1]; simp
  obtain ⟨T, hT⟩ : ∃ T, T = w.heap.size := ⟨_, rfl⟩
  rw [← hT] at hz20 hT1 hB hlt ⊢
  have HLT := Lib.hid hlt
  clear hlt
  have HT := Lib.hid hT
  have HO1 := Lib.hid hO1
  have HB1 := Lib.hid hB1
  clear hw1 hT hO1 hB1 HO
  obtain ⟨cs, hcs, hcs20⟩ := hz20
  go_loopw [5, 7] (fun uv iv wr => ∃ (m j : Nat) (tl : List UInt8) (cur : Array Value), uv = .int .u64 (m : Int) ∧ iv = .int .i64 (j : Int) ∧ Lib.decDigits M = Lib.decDigits m ++ tl ∧ j + tl.length = 20 ∧ m ≤ 9223372036854775808 ∧ wr.heap[T]? = some (.cells cur 41 (0, 0)) ∧ cur.size = 20 ∧ (∀ t, t < tl.length → cur[j + t]? = (tl[t]?).map fun c => Value.int .u8 c.toNat) ∧ w1.grownBy wr (some T)) (fun uv _ _ => (intOf uv).toNat)
  case atStart => exact ⟨M, 20, [], cs, by rw [HX.out], rfl, by simp, rfl, HM.out, hcs, hcs20, fun t ht => by simp at ht, World.grownBy.refl _ _⟩
  case round =>
    obtain ⟨m, j, tl, cur, rfl, rfl, hd, hj, hm, hcur, hc20, hct, hg⟩ := hrel
    have hnd : Lib.nDigits m + tl.length ≤ 20 := by
      have h1 := congrArg List.length hd
      rw [List.length_append, Lib.decDigits_length, Lib.decDigits_length] at h1
      have := nd20 M HM.out
      omega
    have hnp := Lib.nDigits_pos m
    obtain ⟨j', rfl⟩ : ∃ j', j = j' + 1 := ⟨j - 1, by omega⟩
    obtain ⟨old, hold⟩ : ∃ old, cur[j']? = some old := ⟨cur[j']'(by omega), by simp⟩
    have hcell : wr.cell? ⟨T, j', none⟩ = some old := by simp [World.cell?, hcur, hold]
    have hfro : wr.frozen? ⟨T, j', none⟩ = false := by simp [World.frozen?, hcur]
    have HD := Lib.hid hd
    have HC := Lib.hid (show cur.size = 20 ∧ (∀ t, t < tl.length → cur[j' + 1 + t]? = (tl[t]?).map fun c => Value.int .u8 c.toNat) from ⟨hc20, hct⟩)
    have HU := Lib.hid hcur
    have HG := Lib.hid hg
    have HJ := Lib.hid hj
    have HMm := Lib.hid hm
    have b20 : j' < 20 := by omega
    have e4 : IntKind.u64.wrap ((m : Int) / 10) = (m : Int) / 10 := by rw [IntKind.wrap_u64]; omega
    have e5 : IntKind.i64.wrap ((j' : Int)) = (j' : Int) := by rw [IntKind.wrap_i64]; omega
    clear hd hj hm hcur hc20 hct hg hnd hnp hold
    have hsl := slice41 T j' b20
    have hdd : (UInt8.ofNat (48 + m % 10)).toNat = 48 + m % 10 := by rw [UInt8.toNat_ofNat']; omega
    have HDD := Lib.hid hdd
    clear hdd
    by_cases hm10 : m < 10
    · have bz : ((m : Int) / 10 == 0) = true := by simp; omega
      obtain ⟨W2, hW2⟩ : ∃ W2, W2 = wr.setCell ⟨T, j', none⟩ (.int .u8 (48 + (m : Int) % 10)) := ⟨_, rfl⟩
      have hdig := (dec_step HD.out).1 hm10
      have hlen : (Lib.decDigits M).length = 20 - j' := by rw [hdig, List.length_cons]; have := HJ.out; omega
      have hcells : ∀ t u, (Lib.byteCells (Lib.decDigits M))[t]? = some u → W2.cell? ((⟨T, j', none⟩ : Addr).add t) = some u := by
        intro t u hu
        rw [hW2]
        exact app_cells HU.out HC.out.1 HC.out.2 (by have := HJ.out; omega) hdig HDD.out t u hu
      have hg2 : w1.grownBy W2 (some T) := by rw [hW2]; exact gb_setT HG.out _ _
      have hO2 : OwnB W2 B (.slice a l.length c) l := HO1.out.kept hg2 (fun k hk e => by cases e; exact absurd (HLT.out T hk) (Nat.lt_irrefl _))
      have hBW : B ≤ W2.heap.size := by have := hg2.size; have := HB1.out.size; have := HT.out; omega
      have hBel : Below B w W2 := HB1.out.grown hg2 (by have := HT.out; have := HB1.out.size; omega) (fun k hk => by cases hk; exact hB)
      have hlb : (Lib.decDigits M).length ≤ 20 := by omega
      obtain ⟨D, hD⟩ : ∃ D, D = Lib.decDigits M := ⟨_, rfl⟩
      rw [← hD] at hcells hlen hlb
      have HDe := Lib.hid hD
      have HW2 := Lib.hid hW2
      have HO2 := Lib.hid hO2
      have HCs := Lib.hid hcells
      have HBel := Lib.hid hBel
      have HLn := Lib.hid hlen
      clear hdig hcells hg2 hO2 hBel hlen hW2 hD
      go_wp2_with (at_builtin; rw [← HW2.out]; refine wpList_append_own _ rfl _ _ 25 rfl B 5 i0 (.int .u8 0) 1 1 Tryf.underlying25 hi hz0 hz1 hz2 rfl (by decide) _ _ _ rfl HO2.out ⟨T, j', none⟩ (20 - j') (20 - j') (Lib.byteCells D) rfl (by rw [Lib.byteCells_length, HLn.out]; omega) HCs.out (Lib.byteCells_one D) (by unfold maxLen; omega) (by omega) hBW ?_; intro v1 w3 hown1 hgrow1 _; refine Hid.out ?_)
      refine Lib.hid ?_
      rw [← HLn.out] at hown1
      have hO3 : OwnB w3 B v1 (l ++ D) := own_next hown1
      have hB3 : Below B w w3 := HBel.out.grown hgrow1 hBW HO2.out.row
      have FIN := Lib.hid (show OwnB w3 B v1 (l ++ Lib.decDigits M) ∧ Below B w w3 from ⟨by rw [← HDe.out]; exact hO3, hB3⟩)
      clear hown1 hgrow1 hO3 hB3
      go_wp2
      go_ret
      exact ⟨_, rfl, FIN.out⟩
    · have bz : ((m : Int) / 10 == 0) = false := by simp; omega
      have hdig := (dec_step HD.out).2 hm10
      have HDig := Lib.hid hdig
      clear hdig hsl
      go_wp2_with fail
      go_roundw
      case rel => exact ⟨m / 10, j', UInt8.ofNat (48 + m % 10) :: tl, cur.setIfInBounds j' (.int .u8 (48 + (m : Int) % 10)), by simp, rfl, HDig.out, by have := HJ.out; simp; omega, by have := HMm.out; omega, heap_setCell_same wr T j' cur 41 _ HU.out, by simpa using HC.out.1, app_row HC.out.1 HC.out.2 b20 HDD.out, gb_setT HG.out _ _⟩
      case measure => simp [intOf]; omega
end Go.Proofs.Qxb6615779aFmt
