import Derived.Test.Qxb6614864aDoorPermB
namespace Go.Proofs.Qxb6614864aDoor
open Go.RowKit Go.Extern.Stop Go.Stop Go.Extern

set_option maxRecDepth 100000 in
set_option maxHeartbeats 4000000 in
theorem zz8 (a t : ByteArray) (c : Int) (s : Bool) (w : World) (hg : w.cell? ⟨1, 0, none⟩ = some errT) :
    Calls Tryd.prog 8 #[.string a, .int .i64 c, .string t, .bool s] w fun e w' => e = .returned (.bool (perm c s)) ∧ w.grownBy w' none := by
  have G1 := grown_al (World.grownBy.refl w none) (.cells #[.string a, .int .i64 c, .string t, .bool s] 68)
  have C := perm_reply w.heap.size c s (w.alloc (.cells #[.string a, .int .i64 c, .string t, .bool s] 68)) (grown_cell G1 hg (by simp)) (by simp) (by simp)
  generalize perm c s = p at C ⊢
  go_enter Tryd.func8, Tryd.ntmps8
  go_wp2_with (first
    | (go_at_call 26; refine (zzReply26 a t c s _).mono ?_; rintro e w' ⟨rfl, rfl⟩)
    | (go_at_call 25; refine C.mono ?_; rintro e w' ⟨rfl, hG⟩; have GG := grown_tr G1 hG; clear hG))
  go_ret
  exact ⟨rfl, GG⟩

set_option maxRecDepth 100000 in
set_option maxHeartbeats 4000000 in
theorem zz10 (a t : ByteArray) (c : Int) (s : Bool) (w : World) :
    Calls Tryd.prog 10 #[.string a, .int .i64 c, .string t, .bool s] w fun e w' => e = .returned (.bool (perm c s)) ∧ w.grownBy w' none := by
  have G1 := grown_al (World.grownBy.refl w none) (.cells #[.string a, .int .i64 c, .string t, .bool s] 68)
  have C := permanent28 w.heap.size c s (w.alloc (.cells #[.string a, .int .i64 c, .string t, .bool s] 68)) (by simp) (by simp)
  generalize perm c s = p at C ⊢
  go_enter Tryd.func10, Tryd.ntmps10
  go_wp2_with (first
    | (go_at_call 26; refine (zzReply26 a t c s _).mono ?_; rintro e w' ⟨rfl, rfl⟩)
    | (go_at_call 28; refine C.mono ?_; rintro e w' ⟨rfl, rfl⟩))
  go_ret
  exact ⟨rfl, G1⟩

set_option maxRecDepth 100000 in
set_option maxHeartbeats 4000000 in
theorem zz9 (a t : ByteArray) (c : Int) (s : Bool) (w : World) (hg : w.cell? ⟨1, 0, none⟩ = some errT) :
    Calls Tryd.prog 9 #[.string a, .int .i64 c, .string t, .bool s] w fun e w' => e = .returned (.bool (perm c s)) ∧ w.grownBy w' none := by
  have G1 := grown_al (World.grownBy.refl w none) (.cells #[.string a, .int .i64 c, .string t, .bool s] 68)
  have G2 := grown_al (World.grownBy.refl (w.alloc (.cells #[.string a, .int .i64 c, .string t, .bool s] 68)) none) (.cells #[.iface 43 (.pointer (some ⟨w.heap.size, 0, none⟩))] 32)
  have c1 := grown_cell G2 (a := ⟨w.heap.size, 1, none⟩) (x := .int .i64 c) (by simp) (by simp)
  have c3 := grown_cell G2 (a := ⟨w.heap.size, 3, none⟩) (x := .bool s) (by simp) (by simp)
  have cg := grown_cell G2 (grown_cell G1 hg (by simp)) (by simp)
  have J := fun cap => join1 (w.heap.size + 1) cap 43 (.pointer (some ⟨w.heap.size, 0, none⟩)) ((w.alloc (.cells #[.string a, .int .i64 c, .string t, .bool s] 68)).alloc (.cells #[.iface 43 (.pointer (some ⟨w.heap.size, 0, none⟩))] 32)) (by simp)
  have G3 : Hid (w.grownBy ((w.alloc (.cells #[.string a, .int .i64 c, .string t, .bool s] 68)).alloc (.cells #[.iface 43 (.pointer (some ⟨w.heap.size, 0, none⟩))] 32)) none) := grown_tr G1 G2
  have C := fun jb xb cap w' (G : World.grownBy ((w.alloc (.cells #[.string a, .int .i64 c, .string t, .bool s] 68)).alloc (.cells #[.iface 43 (.pointer (some ⟨w.heap.size, 0, none⟩))] 32)) w' none) h0 h1 => perm_join1 jb xb cap w.heap.size c s w' (grown_cell G cg (by simp)) h0 h1 (grown_cell G c1 (by simp)) (grown_cell G c3 (by simp))
  clear G1 G2 c1 c3 cg
  generalize perm c s = p at C ⊢
  go_enter Tryd.func9, Tryd.ntmps9
  go_wp2_with (first
    | (go_at_call 26; refine (zzReply26 a t c s _).mono ?_; rintro e w' ⟨rfl, rfl⟩)
    | (go_at_call 27; refine (J _).mono ?_; rintro e w' ⟨jb, xb, cp, rfl, hG, k1, k2⟩; have C' := C jb xb cp w' hG k1 k2; have G4 := grown_tr G3.out hG; clear hG C)
    | (go_at_call 25; refine C'.mono ?_; rintro e w'' ⟨rfl, hG5⟩; have GG := grown_tr G4 hG5; clear hG5))
  go_ret
  exact ⟨rfl, GG⟩

set_option maxRecDepth 100000 in
set_option maxHeartbeats 4000000 in
theorem zz12 (a t : ByteArray) (w : World) (hg : w.cell? ⟨1, 0, none⟩ = some errT) :
    Calls Tryd.prog 12 #[.string a, .string t] w fun e w' => e = .returned (.bool true) ∧ w.grownBy w' none := by
  have G1 := grown_al (World.grownBy.refl w none) (.cells #[.string a, .string t] 48)
  have C := perm_conv w.heap.size (w.alloc (.cells #[.string a, .string t] 48)) (grown_cell G1 hg (by simp))
  go_enter Tryd.func12, Tryd.ntmps12
  go_wp2_with (go_at_call 25; refine C.mono ?_; rintro e w' ⟨rfl, hG⟩; have GG := grown_tr G1 hG; clear hG)
  go_ret
  exact ⟨rfl, GG⟩

set_option maxRecDepth 100000 in
set_option maxHeartbeats 4000000 in
theorem zz15 (w : World) :
    Calls Tryd.prog 15 #[] w fun e w' => e = .returned (.bool false) ∧ w.grownBy w' none := by
  have C := perm_nil w
  go_enter Tryd.func15, Tryd.ntmps15
  go_wp2_with (go_at_call 25; refine C.mono ?_; rintro e w' ⟨rfl, hG⟩)
  go_ret
  exact ⟨rfl, hG⟩

set_option maxRecDepth 100000 in
set_option maxHeartbeats 4000000 in
theorem zz13 (a t p q : ByteArray) (c : Int) (s : Bool) (w : World) (hg : w.cell? ⟨1, 0, none⟩ = some errT) :
    Calls Tryd.prog 13 #[.string a, .int .i64 c, .string t, .bool s, .string p, .string q] w fun e w' => e = .returned (.bool true) ∧ w.grownBy w' none := by
  obtain ⟨w1, hw1⟩ : ∃ w1, w1 = w.alloc (.cells #[.string a, .int .i64 c, .string t, .bool s] 68) := ⟨_, rfl⟩
  have z1 : w1.heap.size = w.heap.size + 1 := by rw [hw1]; simp
  have G1 : w.grownBy w1 none := by rw [hw1]; exact grown_al (World.grownBy.refl w none) _
  have k1 : w1.cell? ⟨w.heap.size, 1, none⟩ = some (.int .i64 c) := by rw [hw1]; simp
  have k3 : w1.cell? ⟨w.heap.size, 3, none⟩ = some (.bool s) := by rw [hw1]; simp
  have C26 := zzReply26 a t c s w
  rw [← hw1] at C26
  have G2 := grown_al (World.grownBy.refl w1 none) (.cells #[.string p, .string q] 48)
  have G3 := grown_al G2 (.cells #[.iface 43 (.pointer (some ⟨w.heap.size, 0, none⟩)), .iface 46 (.pointer (some ⟨w1.heap.size, 0, none⟩))] 32)
  have J := fun cap => join2 (w1.heap.size + 1) cap 43 46 (.pointer (some ⟨w.heap.size, 0, none⟩)) (.pointer (some ⟨w1.heap.size, 0, none⟩)) ((w1.alloc (.cells #[.string p, .string q] 48)).alloc (.cells #[.iface 43 (.pointer (some ⟨w.heap.size, 0, none⟩)), .iface 46 (.pointer (some ⟨w1.heap.size, 0, none⟩))] 32)) (by simp) (by simp)
  have C := fun jb xb cap w' (G : World.grownBy ((w1.alloc (.cells #[.string p, .string q] 48)).alloc (.cells #[.iface 43 (.pointer (some ⟨w.heap.size, 0, none⟩)), .iface 46 (.pointer (some ⟨w1.heap.size, 0, none⟩))] 32)) w' none) h0 h1 h2 => perm_joinRC jb xb cap w.heap.size w1.heap.size c s w' (grown_cell (grown_tr (grown_tr G1 G3) G) hg (by simp)) h0 h1 h2 (grown_cell (grown_tr G3 G) k1 (by simp)) (grown_cell (grown_tr G3 G) k3 (by simp))
  have HG : Hid (w.grownBy ((w1.alloc (.cells #[.string p, .string q] 48)).alloc (.cells #[.iface 43 (.pointer (some ⟨w.heap.size, 0, none⟩)), .iface 46 (.pointer (some ⟨w1.heap.size, 0, none⟩))] 32)) none) := grown_tr G1 G3
  clear hw1 G1 G2 G3 k1 k3 z1
  go_enter Tryd.func13, Tryd.ntmps13
  go_wp2_with (first
    | (go_at_call 26; refine C26.mono ?_; rintro e w' ⟨rfl, rfl⟩)
    | (go_at_call 27; refine (J _).mono ?_; rintro e w' ⟨jb, xb, cp, rfl, hG, k1, k2, k3⟩; have C' := C jb xb cp w' hG k1 k2 k3; have G4 := grown_tr HG.out hG; clear hG C)
    | (go_at_call 25; refine C'.mono ?_; rintro e w'' ⟨rfl, hG5⟩; have GG := grown_tr G4 hG5; clear hG5))
  go_ret
  exact ⟨rfl, GG⟩

set_option maxRecDepth 100000 in
set_option maxHeartbeats 4000000 in
theorem zz14 (a t p q : ByteArray) (c : Int) (s : Bool) (w : World) (hg : w.cell? ⟨1, 0, none⟩ = some errT) :
    Calls Tryd.prog 14 #[.string a, .int .i64 c, .string t, .bool s, .string p, .string q] w fun e w' => e = .returned (.bool true) ∧ w.grownBy w' none := by
  obtain ⟨w1, hw1⟩ : ∃ w1, w1 = w.alloc (.cells #[.string p, .string q] 48) := ⟨_, rfl⟩
  have C26 := zzReply26 a t c s (w.alloc (.cells #[.string p, .string q] 48))
  have z1 : w1.heap.size = w.heap.size + 1 := by rw [hw1]; simp
  have G1 : w.grownBy w1 none := by rw [hw1]; exact grown_al (World.grownBy.refl w none) _
  rw [← hw1] at C26
  have G2 := grown_al (World.grownBy.refl w1 none) (.cells #[.string a, .int .i64 c, .string t, .bool s] 68)
  have G2' := grown_al (World.grownBy.refl (w1.alloc (.cells #[.string a, .int .i64 c, .string t, .bool s] 68)) none) (.cells #[.iface 46 (.pointer (some ⟨w.heap.size, 0, none⟩)), .iface 43 (.pointer (some ⟨w1.heap.size, 0, none⟩))] 32)
  have G3 := grown_tr G2 G2'
  have k1 := grown_cell G2' (a := ⟨w1.heap.size, 1, none⟩) (x := .int .i64 c) (by simp) (by simp)
  have k3 := grown_cell G2' (a := ⟨w1.heap.size, 3, none⟩) (x := .bool s) (by simp) (by simp)
  have J := fun cap => join2 (w1.heap.size + 1) cap 46 43 (.pointer (some ⟨w.heap.size, 0, none⟩)) (.pointer (some ⟨w1.heap.size, 0, none⟩)) ((w1.alloc (.cells #[.string a, .int .i64 c, .string t, .bool s] 68)).alloc (.cells #[.iface 46 (.pointer (some ⟨w.heap.size, 0, none⟩)), .iface 43 (.pointer (some ⟨w1.heap.size, 0, none⟩))] 32)) (by simp) (by simp)
  have C := fun jb xb cap w' (G : World.grownBy ((w1.alloc (.cells #[.string a, .int .i64 c, .string t, .bool s] 68)).alloc (.cells #[.iface 46 (.pointer (some ⟨w.heap.size, 0, none⟩)), .iface 43 (.pointer (some ⟨w1.heap.size, 0, none⟩))] 32)) w' none) h0 h1 h2 => perm_joinCR jb xb cap w1.heap.size w.heap.size c s w' (grown_cell (grown_tr (grown_tr G1 G3) G) hg (by simp)) h0 h1 h2 (grown_cell G k1 (by simp)) (grown_cell G k3 (by simp))
  have HG : Hid (w.grownBy ((w1.alloc (.cells #[.string a, .int .i64 c, .string t, .bool s] 68)).alloc (.cells #[.iface 46 (.pointer (some ⟨w.heap.size, 0, none⟩)), .iface 43 (.pointer (some ⟨w1.heap.size, 0, none⟩))] 32)) none) := grown_tr G1 G3
  have HW : Hid (w1 = w.alloc (.cells #[.string p, .string q] 48)) := hw1
  clear G1 G2 G2' G3 k1 k3 z1 hw1
  go_enter Tryd.func14, Tryd.ntmps14
  go_wp2_with (first
    | (go_at_call 26; rw [← HW.out]; refine C26.mono ?_; rintro e w' ⟨rfl, rfl⟩)
    | (go_at_call 27; refine (J _).mono ?_; rintro e w' ⟨jb, xb, cp, rfl, hG, k1, k2, k3⟩; have C' := C jb xb cp w' hG k1 k2 k3; have G4 := grown_tr HG.out hG; clear hG C)
    | (go_at_call 25; refine C'.mono ?_; rintro e w'' ⟨rfl, hG5⟩; have GG := grown_tr G4 hG5; clear hG5))
  go_ret
  exact ⟨rfl, GG⟩
end Go.Proofs.Qxb6614864aDoor
