import Derived.Test.Qxb6615779aDoorPlain
import Derived.Test.Qxb6615779aDoorShelf
import Derived.Lib.AppendIntMem
import Derived.Lib.Hide
import Derived.OwnWalk
namespace Go.Proofs.Qxb6615779aDoor
open Go.RowKit Go.Shelf

/-- The table's name, off the given row. -/
abbrev powN : String := Rows.fnDigitsCountsIntTextRow.named.headD ""

theorem appendInt (B n : Nat) (i : Int) (h0 : -9223372036854775808 ≤ i) (h1 : i ≤ 9223372036854775807) (sv : Value) (xs : List Value) (w : World) (hown : w.ownsRow B 5 1 sv n xs) (hBw : B ≤ w.heap.size) (hlim : n + 21 ≤ 140737488355328)
    (htab : Lib.TabBelow Tryd.prog B w powN .u64 Lib.pow10Tab) :
    Calls Tryd.prog 10 #[sv, .int .i64 i, .int .i64 10] w fun e w' => ∃ v', e = .returned v' ∧ w'.ownsRow B 5 1 v' (n + (Lib.itoa i).length) (xs ++ Lib.byteCells (Lib.itoa i)) ∧ Below B w w' ∧ Lib.OthersKept 5 none w w' :=
  Any.strconv_AppendInt_10 Tryd.laysAI B n i h0 h1 sv xs w hown hBw hlim htab

/-- An Encoder that lies at block 'b', fresh. -/
structure Enc (w : World) (b : Nat) : Prop where
  buf : w.cell? ⟨b, 1, none⟩ = some (.slice none 0 0)
  thaw : w.frozen? ⟨b, 1, none⟩ = false
  depth : w.cell? ⟨b, 2, none⟩ = some (.int .i64 0)
  named : w.cell? ⟨b, 4, none⟩ = some (.bool false)

theorem beforeElement (b : Nat) (w : World) (h : Enc w b) : Calls Tryd.prog 13 #[.pointer (some ⟨b, 0, none⟩)] w fun e w' => e = .returned (.tuple #[]) ∧ w' = w := by
  have h2 := h.depth
  go_enter Tryd.func13, Tryd.ntmps13
  go_wp2
  (try simp only [Exit.inBlock, Exit.then])
  refine bodyPost_ret (results_none rfl _ _ _) rfl ?_
  exact ⟨rfl, rfl⟩

theorem beforeValue (b : Nat) (w : World) (h : Enc w b) : Calls Tryd.prog 9 #[.pointer (some ⟨b, 0, none⟩)] w fun e w' => e = .returned (.tuple #[]) ∧ w' = w := by
  have h4 := h.named
  have C := beforeElement b w h
  go_enter Tryd.func9, Tryd.ntmps9
  go_wp2_with (go_at_call 13; refine C.mono ?_; rintro e w' ⟨rfl, rfl⟩)
  go_end0
  exact ⟨rfl, rfl⟩

theorem own_set {w : World} {B : Nat} {e : TypeId} {g n cap : Nat} {xs : List Value} (h : w.ownsRow B e 1 (.slice (some ⟨g, 0, none⟩) n cap) n xs) (a : Addr) (u : Value) (hne : g ≠ a.block) : (w.setCell a u).ownsRow B e 1 (.slice (some ⟨g, 0, none⟩) n cap) n xs := by
  refine ⟨h.1, ?_⟩
  rcases h.2 with ⟨hv, _⟩ | ⟨g', cap', cur, hv, hB, hg, r⟩
  · cases hv
  · cases hv
    exact .inr ⟨g, cap, cur, rfl, hB, by rw [Below.heap_setCell _ _ _ _ hne]; exact hg, r⟩
theorem gb_fresh {w w' : World} (h : Below w.heap.size w w') (b j : Nat) (u : Value) : w.grownBy (w'.setCell ⟨b, j, none⟩ u) (some b) :=
  ⟨h.os, h.tape, h.output, by simpa using h.size, fun k hk hn => by rw [Below.heap_setCell _ _ _ _ (fun e => hn (by rw [e])), h.block k hk]⟩

theorem itoa_pos (n : Int) : 0 < (Lib.itoa n).length := by
  by_cases h : n < 0
  · have := len_neg n h; simp [nums] at this; omega
  · have := len_nonneg n h; simp [nums] at this; have := Lib.nDigits_pos n.natAbs; omega

set_option maxRecDepth 100000 in
set_option maxHeartbeats 1000000 in
/-- (*Encoder).Int. -/
theorem encInt (b : Nat) (n : Int) (h0 : -9223372036854775808 ≤ n) (h1 : n ≤ 9223372036854775807) (w : World) (h : Enc w b) (htab : Lib.TabIs Tryd.prog w powN .u64 Lib.pow10Tab) :
    Calls Tryd.prog 4 #[.pointer (some ⟨b, 0, none⟩), .int .i64 n] w fun e w' => e = .returned (.tuple #[]) ∧ ∃ g cap, w'.cell? ⟨b, 1, none⟩ = some (.slice (some ⟨g, 0, none⟩) (Lib.itoa n).length cap) ∧
      w'.ownsRow w.heap.size 5 1 (.slice (some ⟨g, 0, none⟩) (Lib.itoa n).length cap) (Lib.itoa n).length (Lib.byteCells (Lib.itoa n)) ∧ w.grownBy w' (some b) := by
  have hb : b < w.heap.size := World.block_lt_of_cell? w _ h.buf
  have C9 := beforeValue b w h
  have C10 := appendInt w.heap.size 0 n h0 h1 (.slice none 0 0) [] w (World.ownsRow_nil _ _ _ _) (Nat.le_refl _) (by omega) (Lib.tabBelow_of_tabIs htab)
  have hbuf := h.buf
  have HE : Hid (Enc w b) := h
  have hp : Hid (0 < (Lib.itoa n).length) := itoa_pos n
  obtain ⟨l, hl⟩ : ∃ l, l = Lib.itoa n := ⟨_, rfl⟩
  rw [← hl] at C10 hp ⊢
  clear htab h hl
  go_enter Tryd.func4, Tryd.ntmps4
  go_wp2_with (first
    | (go_at_call 9; refine C9.mono ?_; rintro e w' ⟨rfl, rfl⟩)
    | (go_at_call 10; refine C10.mono ?_; rintro e w1 ⟨v1, rfl, hown1, hnx1, -⟩; refine Hid.out ?_))
  refine Lib.hid ?_
  rw [Nat.zero_add, List.nil_append] at hown1
  rcases hown1.2 with ⟨-, hz⟩ | ⟨g, cap, cur, rfl, hB, -, -, -, -, -⟩
  · have := hp.out; omega
  have cb := hnx1.cell (p := ⟨b, 1, none⟩) hb
  rw [hbuf] at cb
  have fb := (hnx1.frozen (p := ⟨b, 1, none⟩) hb).trans HE.out.thaw
  have HO := Lib.hid hown1
  have HX := Lib.hid hnx1
  clear hown1 hnx1 C9 C10
  go_wp2
  go_end0
  exact ⟨rfl, g, cap, World.cell?_setCell_same _ _ _ cb, own_set HO.out ⟨b, 1, none⟩ _ (by show g ≠ b; omega), gb_fresh HX.out b 1 _⟩

/-- ZZencBuf. -/
theorem encBuf (b : Nat) (v : Value) (w : World) (h : w.cell? ⟨b, 1, none⟩ = some v) : Calls Tryd.prog 5 #[.pointer (some ⟨b, 0, none⟩)] w fun e w' => e = .returned v ∧ w' = w := by
  go_enter Tryd.func5, Tryd.ntmps5
  go_wp2
  go_ret
  exact ⟨rfl, rfl⟩

theorem bytes_of_own {w : World} {B g cap : Nat} {l : List UInt8} (h : w.ownsRow B 5 1 (.slice (some ⟨g, 0, none⟩) l.length cap) l.length (Lib.byteCells l)) : BytesAt w (some ⟨g, 0, none⟩) (nums l) ∧ g < w.heap.size := by
  rcases h.2 with ⟨hv, _⟩ | ⟨g', cap', cur, hv, hB, hg, _, _, _, htake⟩
  · cases hv
  · cases hv
    refine ⟨.inr ⟨g, rfl, fun j hj => ?_⟩, ?_⟩
    · have hj' : j < l.length := by simpa [nums] using hj
      have e : (cur.toList.take (l.length * 1))[j]? = some (.int .u8 (nums l)[j]) := by rw [htake]; simp [Lib.byteCells, nums, hj']
      rw [List.getElem?_take_of_lt (by omega)] at e
      simpa [World.cell?, hg] using e
    · rcases Nat.lt_or_ge g w.heap.size with h | h
      · exact h
      · rw [Array.getElem?_eq_none h] at hg; cases hg
theorem BytesAt.kept {w w' : World} {a : Option Addr} {zs : List Int} {row : Option Nat} (h : BytesAt w a zs) (g : w.grownBy w' row) (hr : ∀ x, a = some x → some x.block ≠ row) : BytesAt w' a zs := by
  rcases h with h | ⟨b, rfl, h⟩
  · exact .inl h
  · refine .inr ⟨b, rfl, fun j hj => ?_⟩
    have h0 := h j hj
    exact (World.cell?_of_block (w := w) (g.block b (World.block_lt_of_cell? w _ h0) (hr _ rfl))).trans h0
end Go.Proofs.Qxb6615779aDoor
