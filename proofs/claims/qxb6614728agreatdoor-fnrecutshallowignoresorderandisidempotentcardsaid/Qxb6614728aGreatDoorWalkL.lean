import Derived.Test.Qxb6614728aGreatDoorWalkK
import Derived.Deep.DeepCutAuto
namespace Go.Proofs.Qxb6614728aGreatDoor
open Go.RowKit Go.Sort

/-- 'copy(d, s)', d a row of the call's own, as long as s: d owns s's cells. Whatever the element's size; of a source without elements nothing is asked. -/
theorem copy_all {w : World} (t e : TypeId) (i : TypeInfo) (size : Nat) (hu : Tryz.prog.underlying t = some (.slice e)) (hi : Tryz.prog.info? e = some i) (hsz : i.size = size) {B g n cap : Nat} {xs : List Value} (hown : w.ownsRow B e size (.slice (some ⟨g, 0, none⟩) n cap) n xs)
    (ad : Addr) (c : Nat) (cs : List Value) (hn : cs.length = n * size) (hsrc : ∀ j v, cs[j]? = some v → w.cell? (ad.add j) = some v) (h1 : ∀ v ∈ cs, v.oneCell' = true) :
    ∃ w', (∀ ty, (Builtin.copy_ #[t, t] ty #[.slice (some ⟨g, 0, none⟩) n cap, .slice (some ad) n c]).run Tryz.prog w = .ok (goInt n) w') ∧ w'.ownsRow B e size (.slice (some ⟨g, 0, none⟩) n cap) n cs ∧ w.grownBy w' (some g) := by
  rcases hown.2 with ⟨h0, _⟩ | ⟨g', cap', cur, hv, hb, hg, hnc, hm, hs3, ht⟩
  · cases h0
  cases hv
  have hle : cs.length ≤ cur.size := by rw [hn, hs3]; exact Nat.mul_le_mul_right _ hnc
  have hf := run_firstCells_some (P := Tryz.prog) w size n ad n c cs hn hsrc
  have hst := run_storeCells_at Tryz.prog g 0 e cs 0 cur w hg (by simpa using hle) h1
  simp only [Nat.add_zero, Nat.zero_add, List.take_zero, List.nil_append] at hst
  refine ⟨w.setRow g (cs ++ cur.toList.drop cs.length).toArray, ?_, ⟨hn, .inr ⟨g, cap, _, rfl, hb, setRow_heap w g _ _ _ _ hg, hnc, hm, ?_, ?_⟩⟩, gb_setRow _ _ _⟩
  · intro ty
    simp [Builtin.copy_, run_underlying hu, Builtin.lenOf, sizeOf, typeInfo, hi, hsz, hf, hst]
  · simp [hs3]; omega
  · rw [← hn]; simp

theorem ints_at_of {w : World} {B : Nat} {a : Option Addr} {c : Nat} {zs : List Int} (h : OwnI w B (.slice a zs.length c) zs) : IntsAt w a zs := by
  rcases h.2 with ⟨h0, h1⟩ | ⟨g, cap, cur, h0, _, hg, _⟩
  · exact .inl (List.eq_nil_of_length_eq_zero h1)
  · injection h0 with h0 _ h2
    subst h0; subst h2
    refine .inr ⟨g, 0, rfl, (Array.getElem?_eq_some_iff.1 hg).1, fun j hj => ?_⟩
    rw [Nat.zero_add, World.ownsRow.cellAt h j (by omega)]
    simp [hj]
theorem facts_at_of {w : World} {B e : Nat} {a : Option Addr} {c : Nat} {fs : List F3} (h : OwnF w B e (.slice a fs.length c) fs) : FactsAt w a fs := by
  rcases h.2 with ⟨h0, h1⟩ | ⟨g, cap, cur, h0, _, hg, _⟩
  · exact .inl (List.eq_nil_of_length_eq_zero h1)
  · injection h0 with h0 _ h2
    subst h0; subst h2
    refine .inr ⟨g, 0, rfl, (Array.getElem?_eq_some_iff.1 hg).1, fun j hj => ?_⟩
    obtain ⟨g0, g1, g2⟩ := flat_get fs j hj
    rw [← World.ownsRow.cellAt h _ (by omega)] at g0 g1 g2
    rw [Nat.zero_add]
    exact ⟨g0, g1, g2⟩

/-- ZZrecut at a slice of facts of the call's own, or nil. -/
theorem zzrecut_any (aT aF aP : Option Addr) (cT cF nP cP B B' : Nat) (gd depth : Int) (gs : Bool) (zs : List Int) (fs : List F3) (w : World) (hz : zs.length ≤ 4096) (hf : fs.length ≤ 4096) (hT : OwnI w B (.slice aT zs.length cT) zs) (hF : OwnF w B' 25 (.slice aF fs.length cF) fs)
    (hd : ∀ f ∈ fs, f.2.2 < depth) :
    Calls Tryz.prog 7 #[.int .i64 gd, .slice aT zs.length cT, .bool gs, .slice aF fs.length cF, .slice aP nP cP, .int .i64 depth] w fun e w' =>
      ∃ aT' cT' aF' cF', e = .returned (.tuple #[.int .i64 depth, .slice aT' (outT zs).length cT', .bool false, .slice aF' (outF fs).length cF', .slice none 0 0]) ∧
        OwnI w' B (.slice aT' (outT zs).length cT') (outT zs) ∧ OwnF w' w.heap.size 25 (.slice aF' (outF fs).length cF') (outF fs) ∧ w.grownBy w' (Value.slice aT zs.length cT).ownBlock ∧ (Value.slice aT' (outT zs).length cT').ownBlock = (Value.slice aT zs.length cT).ownBlock := by
  rcases hF.2 with ⟨h0, h1⟩ | ⟨g, cap, cur, h0, _, hg, _⟩
  · injection h0 with h0 _ h2
    subst h0; subst h2
    have : fs = [] := List.eq_nil_of_length_eq_zero h1
    subst this
    exact zzrecut_nil aT aP cT nP cP B gd depth gs zs w hz hT
  · injection h0 with h0 _ h2
    subst h0; subst h2
    refine zzrecut_some aT aP g 0 cT cF nP cP B gd depth gs zs fs w hz hf hT (Array.getElem?_eq_some_iff.1 hg).1 (fun j hj => ?_) hd
    obtain ⟨g0, g1, g2⟩ := flat_get fs j hj
    rw [← World.ownsRow.cellAt hF _ (by omega)] at g0 g1 g2
    rw [Nat.zero_add]
    exact ⟨g0, g1, g2⟩

/-! Later worlds. -/
theorem OwnI.later {w w' : World} {B : Nat} {v : Value} {zs : List Int} (h : OwnI w B v zs) (hb : Below w.heap.size w w') : OwnI w' B v zs := own_below h hb (fun x e => (World.ownsRow.lt h x e).2)
theorem OwnF.later {w w' : World} {B e : Nat} {v : Value} {fs : List F3} (h : OwnF w B e v fs) (hb : Below w.heap.size w w') : OwnF w' B e v fs := own_below h hb (fun x e => (World.ownsRow.lt h x e).2)
theorem ints_cells {w w' : World} {B : Nat} {a : Option Addr} {c : Nat} {zs : List Int} (h : OwnI w B (.slice a zs.length c) zs) (hb : Below w.heap.size w w') (hne : 0 < zs.length) :
    ∃ b off, a = some ⟨b, off, none⟩ ∧ b < w'.heap.size ∧ ∀ j (hj : j < zs.length), w'.cell? ⟨b, off + j, none⟩ = some (.int .i64 zs[j]) := by
  rcases ints_at_of (h.later hb) with e | ⟨b, off, e, hbl, hc⟩
  · subst e; simp at hne
  · exact ⟨b, off, e, hbl, fun j hj => by rw [hc j hj]; simp [hj]⟩
theorem facts_cells {w w' : World} {B e : Nat} {a : Option Addr} {c : Nat} {fs : List F3} (h : OwnF w B e (.slice a fs.length c) fs) (hb : Below w.heap.size w w') (hne : 0 < fs.length) :
    ∃ b off, a = some ⟨b, off, none⟩ ∧ b < w'.heap.size ∧ Cells3 w' b off fs := by
  rcases facts_at_of (h.later hb) with e | ⟨b, off, e, hbl, hc⟩
  · subst e; simp at hne
  · exact ⟨b, off, e, hbl, hc⟩
theorem below_grow {w : World} (n : Nat) (os : Array Obj) : Below w.heap.size w (grow (w.drewN n) os) := gb_below (grownBy_grow w n os) (Nat.le_refl _) (by simp)

set_option maxHeartbeats 400000 in
theorem pairLess_grow (x y : F3) (w : World) :
    Calls Tryz.prog 10 #[.agg #[.int .i64 x.1, .int .i64 x.2.1, .int .i64 x.2.2], .agg #[.int .i64 y.1, .int .i64 y.2.1, .int .i64 y.2.2]] w fun e w' => e = .returned (.bool (pairLess x y)) ∧ ∃ q os', w' = grow (w.drewN q) os' := by
  go_enter Tryz.func10, Tryz.ntmps10
  go_wp2
  · go_ret
    exact ⟨ret_bool (pl_ne ‹_›), 0, _, by rw [alloc_eq_grow, alloc_eq_grow, grow_grow]; rfl⟩
  · go_ret
    exact ⟨ret_bool (pl_eq ‹_›), 0, _, by rw [alloc_eq_grow, alloc_eq_grow, grow_grow]; rfl⟩
theorem hasB_of_mem {zs : List Int} {x : Int} (h : x ∈ zs) : hasB zs x = true := by
  unfold hasB; rw [List.any_eq_true]; exact ⟨x, h, by simp⟩
theorem hasP_of_mem {fs : List F3} {x y : F3} (h : y ∈ fs) (hs : sameP y x = true) : hasP fs x = true := by
  unfold hasP; rw [List.any_eq_true]; exact ⟨y, h, hs⟩
end Go.Proofs.Qxb6614728aGreatDoor
