import Derived.Test.Qxb6614864aDoorPerm
namespace Go.Proofs.Qxb6614864aDoor
open Go.RowKit Go.Extern.Stop Go.Stop Go.Extern

theorem pick_frozen {w w2 : World} {t : Addr} {old : Value} (G : w.grownBy w2 none) (ht : w.cell? t = some old) (hf : w.frozen? t = false) : w2.frozen? t = false :=
  (grown_frozen G ht (by simp)).trans hf

theorem perm_reply (rb : Nat) (c : Int) (s : Bool) (w : World) (hg : w.cell? ⟨1, 0, none⟩ = some errT)
    (h1 : w.cell? ⟨rb, 1, none⟩ = some (.int .i64 c)) (h3 : w.cell? ⟨rb, 3, none⟩ = some (.bool s)) :
    Calls Tryd.prog 25 #[.iface 43 (.pointer (some ⟨rb, 0, none⟩))] w fun ev w' => ev = .returned (.bool (perm c s)) ∧ w.grownBy w' none := by
  have h := perm_found 43 (.pointer (some ⟨rb, 0, none⟩)) rb c s false w h1 h3
    (fun t w2 G ht hf => as43_43 _ t true (Hit t ⟨rb, 0, none⟩ w2) w2 (grown_cell G hg (by simp)) fun v w3 G3 hv =>
      (as_selfA43 _ t v _ w3 hv (grown_cell G3 ht (by simp)) (pick_frozen G3 ht hf)).mono fun ev w' ⟨e, k⟩ => ⟨e, hit_later G3 k⟩)
    (fun t w2 G ht hf => as46_43 _ t false (fun w' => w2.grownBy w' (some t.block)) w2 (grown_cell G hg (by simp)) fun v w3 G3 hv =>
      (as_otherA46 _ t v w3).mono fun ev w' ⟨e, k⟩ => ⟨e, grown_none (grown_tr G3 k)⟩)
  simpa using h

theorem perm_conv (cb : Nat) (w : World) (hg : w.cell? ⟨1, 0, none⟩ = some errT) :
    Calls Tryd.prog 25 #[.iface 46 (.pointer (some ⟨cb, 0, none⟩))] w fun ev w' => ev = .returned (.bool true) ∧ w.grownBy w' none :=
  perm_none _ true w
    (fun t w2 G ht hf => as43_46 _ t false (fun w' => w2.grownBy w' none) w2 (grown_cell G hg (by simp)) fun v w3 G3 hv =>
      (as_otherA43 _ t v w3).mono fun ev w' ⟨e, k⟩ => ⟨e, grown_tr G3 k⟩)
    (fun t w2 G ht hf => as46_46 _ t true (fun w' => w2.grownBy w' (some t.block)) w2 (grown_cell G hg (by simp)) fun v w3 G3 hv =>
      (as_selfA46 _ t v _ w3 hv (grown_cell G3 ht (by simp)) (pick_frozen G3 ht hf)).mono fun ev w' ⟨e, k⟩ => ⟨e, (hit_later G3 k).2.2⟩)

theorem perm_nil (w : World) :
    Calls Tryd.prog 25 #[.nilIface] w fun ev w' => ev = .returned (.bool false) ∧ w.grownBy w' none :=
  perm_none _ false w
    (fun t w2 G ht hf => (as_nil _ w2).mono fun ev w' ⟨e, k⟩ => ⟨e, by rw [k]; exact World.grownBy.refl _ _⟩)
    (fun t w2 G ht hf => (as_nil _ w2).mono fun ev w' ⟨e, k⟩ => ⟨e, by rw [k]; exact World.grownBy.refl _ _⟩)

theorem perm_join1 (jb xb cap rb : Nat) (c : Int) (s : Bool) (w : World) (hg : w.cell? ⟨1, 0, none⟩ = some errT)
    (hj : w.cell? ⟨jb, 0, none⟩ = some (.slice (some ⟨xb, 0, none⟩) 1 cap)) (h0 : w.cell? ⟨xb, 0, none⟩ = some (.iface 43 (.pointer (some ⟨rb, 0, none⟩))))
    (h1 : w.cell? ⟨rb, 1, none⟩ = some (.int .i64 c)) (h3 : w.cell? ⟨rb, 3, none⟩ = some (.bool s)) :
    Calls Tryd.prog 25 #[.iface 70 (.pointer (some ⟨jb, 0, none⟩))] w fun ev w' => ev = .returned (.bool (perm c s)) ∧ w.grownBy w' none := by
  have h := perm_found 70 (.pointer (some ⟨jb, 0, none⟩)) rb c s false w h1 h3
    (fun t w2 G ht hf => as43_70 _ t true (Hit t ⟨rb, 0, none⟩ w2) w2 (grown_cell G hg (by simp)) fun v w3 G3 hv =>
      (asj43_hit1_1 ⟨jb, 0, none⟩ _ t v xb cap _ w3 (grown_cell G3 (grown_cell G hj (by simp)) (by simp)) (grown_cell G3 (grown_cell G h0 (by simp)) (by simp)) hv (grown_cell G3 ht (by simp)) (pick_frozen G3 ht hf)).mono fun ev w' ⟨e, k⟩ => ⟨e, hit_later G3 k⟩)
    (fun t w2 G ht hf => as46_70 _ t false (fun w' => w2.grownBy w' (some t.block)) w2 (grown_cell G hg (by simp)) fun v w3 G3 hv =>
      (asj46_miss1_1 ⟨jb, 0, none⟩ _ t v xb cap w3 (grown_cell G3 (grown_cell G hj (by simp)) (by simp)) (grown_cell G3 (grown_cell G h0 (by simp)) (by simp))).mono fun ev w' ⟨e, k⟩ => ⟨e, grown_none (grown_tr G3 k)⟩)
  simpa using h

theorem perm_joinRC (jb xb cap rb cb : Nat) (c : Int) (s : Bool) (w : World) (hg : w.cell? ⟨1, 0, none⟩ = some errT)
    (hj : w.cell? ⟨jb, 0, none⟩ = some (.slice (some ⟨xb, 0, none⟩) 2 cap)) (h0 : w.cell? ⟨xb, 0, none⟩ = some (.iface 43 (.pointer (some ⟨rb, 0, none⟩)))) (hc : w.cell? ⟨xb, 1, none⟩ = some (.iface 46 (.pointer (some ⟨cb, 0, none⟩))))
    (h1 : w.cell? ⟨rb, 1, none⟩ = some (.int .i64 c)) (h3 : w.cell? ⟨rb, 3, none⟩ = some (.bool s)) :
    Calls Tryd.prog 25 #[.iface 70 (.pointer (some ⟨jb, 0, none⟩))] w fun ev w' => ev = .returned (.bool true) ∧ w.grownBy w' none := by
  have h := perm_found 70 (.pointer (some ⟨jb, 0, none⟩)) rb c s true w h1 h3
    (fun t w2 G ht hf => as43_70 _ t true (Hit t ⟨rb, 0, none⟩ w2) w2 (grown_cell G hg (by simp)) fun v w3 G3 hv =>
      (asj43_hit1_2 ⟨jb, 0, none⟩ _ t v xb cap _ w3 (grown_cell G3 (grown_cell G hj (by simp)) (by simp)) (grown_cell G3 (grown_cell G h0 (by simp)) (by simp)) hv (grown_cell G3 ht (by simp)) (pick_frozen G3 ht hf)).mono fun ev w' ⟨e, k⟩ => ⟨e, hit_later G3 k⟩)
    (fun t w2 G ht hf => as46_70 _ t true (fun w' => w2.grownBy w' (some t.block)) w2 (grown_cell G hg (by simp)) fun v w3 G3 hv =>
      (asj46_hit2_2 ⟨jb, 0, none⟩ _ _ t v xb cap _ w3 (grown_cell G3 (grown_cell G hj (by simp)) (by simp)) (grown_cell G3 (grown_cell G h0 (by simp)) (by simp)) (grown_cell G3 (grown_cell G hc (by simp)) (by simp)) hv (grown_cell G3 ht (by simp)) (pick_frozen G3 ht hf)).mono fun ev w' ⟨e, k⟩ => ⟨e, (hit_later G3 k).2.2⟩)
  simpa using h

theorem perm_joinCR (jb xb cap rb cb : Nat) (c : Int) (s : Bool) (w : World) (hg : w.cell? ⟨1, 0, none⟩ = some errT)
    (hj : w.cell? ⟨jb, 0, none⟩ = some (.slice (some ⟨xb, 0, none⟩) 2 cap)) (h0 : w.cell? ⟨xb, 0, none⟩ = some (.iface 46 (.pointer (some ⟨cb, 0, none⟩)))) (hc : w.cell? ⟨xb, 1, none⟩ = some (.iface 43 (.pointer (some ⟨rb, 0, none⟩))))
    (h1 : w.cell? ⟨rb, 1, none⟩ = some (.int .i64 c)) (h3 : w.cell? ⟨rb, 3, none⟩ = some (.bool s)) :
    Calls Tryd.prog 25 #[.iface 70 (.pointer (some ⟨jb, 0, none⟩))] w fun ev w' => ev = .returned (.bool true) ∧ w.grownBy w' none := by
  have h := perm_found 70 (.pointer (some ⟨jb, 0, none⟩)) rb c s true w h1 h3
    (fun t w2 G ht hf => as43_70 _ t true (Hit t ⟨rb, 0, none⟩ w2) w2 (grown_cell G hg (by simp)) fun v w3 G3 hv =>
      (asj43_hit2_2 ⟨jb, 0, none⟩ _ _ t v xb cap _ w3 (grown_cell G3 (grown_cell G hj (by simp)) (by simp)) (grown_cell G3 (grown_cell G h0 (by simp)) (by simp)) (grown_cell G3 (grown_cell G hc (by simp)) (by simp)) hv (grown_cell G3 ht (by simp)) (pick_frozen G3 ht hf)).mono fun ev w' ⟨e, k⟩ => ⟨e, hit_later G3 k⟩)
    (fun t w2 G ht hf => as46_70 _ t true (fun w' => w2.grownBy w' (some t.block)) w2 (grown_cell G hg (by simp)) fun v w3 G3 hv =>
      (asj46_hit1_2 ⟨jb, 0, none⟩ _ t v xb cap _ w3 (grown_cell G3 (grown_cell G hj (by simp)) (by simp)) (grown_cell G3 (grown_cell G h0 (by simp)) (by simp)) hv (grown_cell G3 ht (by simp)) (pick_frozen G3 ht hf)).mono fun ev w' ⟨e, k⟩ => ⟨e, (hit_later G3 k).2.2⟩)
  simpa using h
end Go.Proofs.Qxb6614864aDoor
