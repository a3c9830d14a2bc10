import Derived.Test.Qxb6615779aWalkB
import Derived.OwnWalk
import Derived.WalkSpells
namespace Go.Proofs.Qxb6615779a
open Go.RowKit

theorem Try.info5 : (Try.prog.info? 5).map (fun i => (i.zero, i.size, i.bytes)) = some (some (.int .u8 0), 1, 1) := by kernel_rfl
theorem info_parts {P : Program} {t : TypeId} {z : Value} {n b : Nat} (h : (P.info? t).map (fun i => (i.zero, i.size, i.bytes)) = some (some z, n, b)) : ∃ i, P.info? t = some i ∧ i.zero = some z ∧ i.size = n ∧ i.bytes = b := by
  obtain ⟨i, h1, h2⟩ := Option.map_eq_some_iff.1 h
  simp only [Prod.mk.injEq] at h2
  exact ⟨i, h1, h2.1, h2.2.1, h2.2.2⟩
theorem gb_set {w wr : World} {row : Option Nat} (h : w.grownBy wr row) {p : Addr} (hp : w.heap.size ≤ p.block) (u : Value) : w.grownBy (wr.setCell p u) row :=
  ⟨h.os, h.tape, h.output, by simpa [World.setCell] using h.size, fun k hk hne => (Below.heap_setCell _ _ _ _ (by omega)).trans (h.block k hk hne)⟩
/-- The bytes of a slice that came in. -/
def IntsAt (w : World) (a : Option Addr) (zs : List Int) : Prop := zs = [] ∨ ∃ b off, a = some ⟨b, off, none⟩ ∧ b < w.heap.size ∧ ∀ j, j < zs.length → w.cell? ⟨b, off + j, none⟩ = some (.int .u8 (zs.getD j 0))

/-- The clone, k rounds done. -/
def cl (zs : List Int) (k : Nat) : List Value := (zs.take k ++ List.replicate (zs.length - k) 0).map (Value.int .u8)
theorem cl_set (zs : List Int) (k : Nat) (hk : k < zs.length) : (cl zs k).set k (.int .u8 zs[k]) = cl zs (k + 1) := by
  unfold cl
  have e1 : List.replicate (zs.length - k) (0 : Int) = 0 :: List.replicate (zs.length - (k + 1)) 0 := by
    rw [show zs.length - k = zs.length - (k + 1) + 1 by omega]; rfl
  rw [e1, List.take_succ_eq_append_getElem hk]
  rw [List.map_append, List.map_append, List.map_append]
  rw [List.set_append_right _ _ (by simp; omega)]
  simp [Nat.min_eq_left (Nat.le_of_lt hk)]
theorem cl_len (zs : List Int) (k : Nat) (hk : k ≤ zs.length) : (cl zs k).length = zs.length := by simp [cl]; omega
theorem cl_end (zs : List Int) : cl zs zs.length = zs.map (Value.int .u8) := by simp [cl]
theorem cl_zero (zs : List Int) : cl zs 0 = (madeCells #[Value.int .u8 0] zs.length).toList := by
  rw [toList_madeCells_one]
  simp [cl]

set_option maxHeartbeats 400000 in
theorem clone_some (b off cap : Nat) (zs : List Int) (w : World) (hm : zs.length ≤ 1048576) (_hb : b < w.heap.size) (hc : ∀ j, j < zs.length → w.cell? ⟨b, off + j, none⟩ = some (.int .u8 (zs.getD j 0))) :
    Calls Try.prog 5 #[.slice (some ⟨b, off, none⟩) zs.length cap] w fun e w' => e = .returned (.slice (some ⟨w.heap.size, 0, none⟩) zs.length zs.length) ∧
      w'.ownsRow w.heap.size 5 1 (.slice (some ⟨w.heap.size, 0, none⟩) zs.length zs.length) zs.length (zs.map (Value.int .u8)) ∧ w.grownBy w' none := by
  obtain ⟨i0, hi, hz0, hz1, hz2⟩ := info_parts Try.info5
  have hbt : i0.bytes * zs.length ≤ 281474976710656 := by rw [hz2]; omega
  have hml : zs.length ≤ maxLen := by unfold maxLen; omega
  have hnil := fun (w : World) (a : Option Addr) (n c n' c' : Nat) => Lib.run_eql_slice_nil (P := Try.prog) w 22 _ a n c n' c' Try.underlying22
  go_enter Try.func5, Try.ntmps5
  go_wp2_with (first | (at_make; refine wpList_make_full _ rfl _ _ 22 rfl w.heap.size 5 i0 (.int .u8 0) 1 Try.underlying22 hi hz0 hz1 _ _ _ _ zs.length rfl rfl rfl rfl hbt hml (Nat.le_refl _) ?_))
  intro w1 hown hgrow
  rw [← cl_zero] at hown
  go_wp2
  go_loopw [4] (fun i wr => ∃ k : Nat, k ≤ zs.length ∧ i = .int .i64 k ∧ wr.ownsRow w.heap.size 5 1 (.slice (some ⟨w.heap.size, 0, none⟩) zs.length zs.length) zs.length (cl zs k) ∧ w.grownBy wr none) (fun i _ => zs.length - (intOf i).toNat)
  case atStart => exact ⟨0, Nat.zero_le _, rfl, hown, hgrow⟩
  case round =>
    obtain ⟨k, hk, rfl, hown', hgrow'⟩ := hrel
    by_cases hlt : k < zs.length
    · have c1 : wr.cell? ⟨b, off + k, none⟩ = some (.int .u8 zs[k]) := by
        have := hc k hlt
        simp only [List.getD_eq_getElem?_getD, List.getElem?_eq_getElem hlt, Option.getD_some] at this
        exact hgrow'.cell this (by simp)
      have c2 := hown'.frozenAt k
      have c3 : wr.cell? ⟨w.heap.size, k, none⟩ = some ((cl zs k)[k]'(by rw [cl_len zs k hk]; exact hlt)) := by
        rw [hown'.cellAt k (by omega), List.getElem?_eq_getElem]
      generalize (cl zs k)[k]'(by rw [cl_len zs k hk]; exact hlt) = old at c3
      have hst := hown'.stored k (.int .u8 zs[k])
      rw [cl_set zs k hlt] at hst
      go_wp2
      go_roundw
      case rel => exact ⟨k + 1, by omega, by go_num, hst.1, gb_set hgrow' (by simp) _⟩
      case measure => simp [intOf]; omega
    · go_wp2
      go_ret
      have : k = zs.length := by omega
      subst this
      rw [cl_end] at hown'
      exact ⟨rfl, hown', hgrow'⟩

theorem Try.nilInts (w : World) (a : Option Addr) (n c n' c' : Nat) : (binOp .eql 22 (.slice a n c) (.slice none n' c')).run Try.prog w = .ok (.bool a.isNone) w := Lib.run_eql_slice_nil (P := Try.prog) w 22 _ a n c n' c' Try.underlying22

theorem clone_nil (n cap : Nat) (w : World) :
    Calls Try.prog 5 #[.slice none n cap] w fun e w' => e = .returned (.slice none 0 0) ∧ w' = w := by
  have hnil := Try.nilInts
  go_enter Try.func5, Try.ntmps5
  go_wp2
  go_ret
  exact ⟨rfl, rfl⟩

/-- A slice of the call's own: it owns its cells (nil where it has none of its own). -/
def OwnB (w : World) (B : Nat) (v : Value) (zs : List Int) : Prop := w.ownsRow B 5 1 v zs.length (zs.map (Value.int .u8))

set_option maxHeartbeats 400000 in
theorem clone_zero (x : Addr) (cap : Nat) (w : World) :
    Calls Try.prog 5 #[.slice (some x) 0 cap] w fun e w' => e = .returned (.slice (some ⟨w.heap.size, 0, none⟩) 0 0) ∧
      w'.ownsRow w.heap.size 5 1 (.slice (some ⟨w.heap.size, 0, none⟩) 0 0) 0 [] ∧ w.grownBy w' none := by
  obtain ⟨i0, hi, hz0, hz1, hz2⟩ := info_parts Try.info5
  have hnil := Try.nilInts
  go_enter Try.func5, Try.ntmps5
  go_wp2_with (first | (at_make; refine wpList_make_full _ rfl _ _ 22 rfl w.heap.size 5 i0 (.int .u8 0) 1 Try.underlying22 hi hz0 hz1 _ _ _ _ 0 rfl rfl rfl rfl (by simp) (by simp) (Nat.le_refl _) ?_))
  intro w1 hown hgrow
  go_wp2
  refine wp_loop_rounds 1 ?_
  rw [rounds_succ]
  go_wp2
  go_ret
  exact ⟨rfl, by simpa [madeCells] using hown, hgrow⟩

/-- The clone. -/
theorem clone_any (a : Option Addr) (cap : Nat) (zs : List Int) (w : World) (h : IntsAt w a zs) (hm : zs.length ≤ 1048576) :
    Calls Try.prog 5 #[.slice a zs.length cap] w fun e w' => ∃ a' c', e = .returned (.slice a' zs.length c') ∧ OwnB w' w.heap.size (.slice a' zs.length c') zs ∧ w.grownBy w' none := by
  rcases h with rfl | ⟨b, off, rfl, hb, hc⟩
  · cases a with
    | none => exact (clone_nil _ _ w).mono fun e w' ⟨he, hw⟩ => ⟨_, _, he, World.ownsRow_nil _ _ _ _, by subst hw; exact World.grownBy.refl _ _⟩
    | some x => exact (clone_zero x cap w).mono fun e w' ⟨he, ho, hg⟩ => ⟨_, _, he, ho, hg⟩
  · exact (clone_some b off cap zs w hm hb hc).mono fun e w' ⟨he, ho, hg⟩ => ⟨_, _, he, ho, hg⟩


theorem bytes_of_own {w : World} {B : Nat} {a : Option Addr} {n c : Nat} {zs : List Int} (h : OwnB w B (.slice a n c) zs) : BytesAt w a zs := by
  rcases h.2 with ⟨hv, hn⟩ | ⟨g, cap, cur, hv, hB, hg, _, _, _, htake⟩
  · exact .inl (List.length_eq_zero_iff.1 hn)
  · cases hv
    refine .inr ⟨g, rfl, fun j hj => ?_⟩
    have e : (cur.toList.take (zs.length * 1))[j]? = some (.int .u8 zs[j]) := by rw [htake]; simp [hj]
    rw [List.getElem?_take_of_lt (by omega)] at e
    simpa [World.cell?, hg] using e
theorem own_block {w : World} {B : Nat} {a : Option Addr} {n c : Nat} {zs : List Int} (h : OwnB w B (.slice a n c) zs) : ∀ x, a = some x → x.block < w.heap.size := by
  intro x hx
  rcases h.2 with ⟨hv, hn⟩ | ⟨g, cap, cur, hv, hB, hg, _⟩
  · cases hv; cases hx
  · cases hv; cases hx
    rcases Nat.lt_or_ge g w.heap.size with h | h
    · exact h
    · rw [Array.getElem?_eq_none h] at hg; cases hg
theorem BytesAt.kept {w w' : World} {a : Option Addr} {zs : List Int} {row : Option Nat} (h : BytesAt w a zs) (g : w.grownBy w' row) (hr : ∀ x, a = some x → some x.block ≠ row) : BytesAt w' a zs := by
  rcases h with h | ⟨b, rfl, h⟩
  · exact .inl h
  · refine .inr ⟨b, rfl, fun j hj => ?_⟩
    have h0 := h j hj
    exact (World.cell?_of_block (w := w) (g.block b (World.block_lt_of_cell? w _ h0) (hr _ rfl))).trans h0
theorem BytesAt.cut {w : World} {a : Option Addr} {zs : List Int} (h : BytesAt w a zs) (k : Nat) : BytesAt w a (zs.take k) := by
  rcases h with rfl | ⟨b, rfl, h⟩
  · exact .inl (by simp)
  · exact .inr ⟨b, rfl, fun j hj => by rw [List.length_take] at hj; rw [h j (by omega)]; simp⟩
end Go.Proofs.Qxb6615779a
