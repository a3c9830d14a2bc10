import Derived.Test.Qxb6614864aDoorAs42
namespace Go.Proofs.Qxb6614864aDoor
open Go.RowKit Go.Extern.Stop Go.Stop Go.Extern

/-- (*joinError).Unwrap. -/
theorem unwrap_any (j : Addr) (s : Value) (w : World) (hj : w.cell? j = some s) :
    Calls Tryd.prog 78 #[.pointer (some j)] w fun ev w' => ev = .returned s ∧ w' = w := by
  go_enter Tryd.func78, Tryd.ntmps78
  go_wp2
  go_ret
  exact ⟨rfl, rfl⟩

/-- What a hit leaves. -/
def Hit (t e : Addr) (w w' : World) : Prop := w'.cell? t = some (.pointer (some e)) ∧ w'.frozen? t = false ∧ w.grownBy w' (some t.block)
theorem hit_of {t e : Addr} {w w1 : World} {old : Value} (h : w.grownBy w1 none) (ht : w.cell? t = some old) (hf : w.frozen? t = false) : Hit t e w (w1.setCell t (.pointer (some e))) := by
  have hc := grown_cell h ht (by simp)
  refine ⟨?_, ?_, grown_set (grown_none h) _⟩
  · exact World.cell?_setCell_same _ _ _ hc
  · simp [grown_frozen h ht (by simp), hf]
theorem hit_later {t e : Addr} {w w1 w' : World} (h : w.grownBy w1 none) (k : Hit t e w1 w') : Hit t e w w' :=
  ⟨k.1, k.2.1, grown_tr (grown_none h) k.2.2⟩


theorem as_selfA43 (e t v : Addr) (old : Value) (w : World) (hv : w.cell? v = some (.pointer (some t))) (ht : w.cell? t = some old) (hf : w.frozen? t = false) :
    Calls Tryd.prog 42 #[.iface 43 (.pointer (some e)), .iface 65 (.pointer (some t)), .agg #[.pointer (some ⟨4, 65, none⟩), .pointer (some v), .int .u64 150], .iface 95 (.agg #[.pointer (some ⟨4, 43, none⟩)])] w fun ev w' => ev = .returned (.bool true) ∧ Hit t e w w' :=
  (as_self43 e t v old w hv ht hf).mono fun ev w' ⟨h1, h2⟩ => ⟨h1, by rw [h2]; exact hit_of (grown_al (grown_al (World.grownBy.refl w none) _) _) ht hf⟩
theorem as_otherA43 (e t v : Addr) (w : World) :
    Calls Tryd.prog 42 #[.iface 46 (.pointer (some e)), .iface 65 (.pointer (some t)), .agg #[.pointer (some ⟨4, 65, none⟩), .pointer (some v), .int .u64 150], .iface 95 (.agg #[.pointer (some ⟨4, 43, none⟩)])] w fun ev w' => ev = .returned (.bool false) ∧ w.grownBy w' none :=
  (as_other43 e t v w).mono fun ev w' ⟨h1, h2⟩ => ⟨h1, by rw [h2]; exact grown_al (World.grownBy.refl w none) _⟩


set_option maxRecDepth 100000 in
set_option maxHeartbeats 4000000 in
theorem asj43_hit1_1 (j e t v : Addr) (sb cap : Nat) (old : Value) (w : World) (hj : w.cell? j = some (.slice (some ⟨sb, 0, none⟩) 1 cap)) (h0 : w.cell? ⟨sb, 0, none⟩ = some (.iface 43 (.pointer (some e)))) (hv : w.cell? v = some (.pointer (some t))) (ht : w.cell? t = some old) (hf : w.frozen? t = false) :
    Calls Tryd.prog 42 #[.iface 70 (.pointer (some j)), .iface 65 (.pointer (some t)), .agg #[.pointer (some ⟨4, 65, none⟩), .pointer (some v), .int .u64 150], .iface 95 (.agg #[.pointer (some ⟨4, 43, none⟩)])] w fun ev w' => ev = .returned (.bool true) ∧ Hit t e w w' := by
  have g46 := h46
  have g83 := h83
  have f1 := typeOf70
  have f2 := methodAssignableTo
  have f3 := assignable70_43
  have l1 := lacks70_100
  have l2 := lacks70_103
  have l3 := has70_104
  have mU := methodUnwrap
  have G := grown_al (World.grownBy.refl w none) (.cells #[.pointer (some ⟨4, 65, none⟩), .pointer (some v), .int .u64 150] 83)
  have cU := unwrap_any j _ _ (grown_cell G hj (by simp))
  have c0 := grown_cell G h0 (by simp)

  go_enter Tryd.func42, Tryd.ntmps42
  go_wp2
  refine wp_loop_rounds 1 ?_
  rw [rounds_succ]
  go_wp2_with fail
  refine cU.mono ?_
  rintro ev w' ⟨rfl, rfl⟩
  go_wp2_with fail
  refine wp_loop_rounds 1 ?_
  rw [rounds_succ]
  go_wp2_with fail
  have G' := G
  refine (as_selfA43 e t v old _ (grown_cell G' hv (by simp)) (grown_cell G' ht (by simp)) (by rw [grown_frozen G' ht (by simp)]; exact hf)).mono ?_
  rintro ev w2 ⟨rfl, hh⟩
  have HH := hit_later G' hh
  clear hh
  go_wp2_with fail
  go_ret
  exact ⟨rfl, HH⟩


set_option maxRecDepth 100000 in
set_option maxHeartbeats 4000000 in
theorem asj43_hit1_2 (j e t v : Addr) (sb cap : Nat) (old : Value) (w : World) (hj : w.cell? j = some (.slice (some ⟨sb, 0, none⟩) 2 cap)) (h0 : w.cell? ⟨sb, 0, none⟩ = some (.iface 43 (.pointer (some e)))) (hv : w.cell? v = some (.pointer (some t))) (ht : w.cell? t = some old) (hf : w.frozen? t = false) :
    Calls Tryd.prog 42 #[.iface 70 (.pointer (some j)), .iface 65 (.pointer (some t)), .agg #[.pointer (some ⟨4, 65, none⟩), .pointer (some v), .int .u64 150], .iface 95 (.agg #[.pointer (some ⟨4, 43, none⟩)])] w fun ev w' => ev = .returned (.bool true) ∧ Hit t e w w' := by
  have g46 := h46
  have g83 := h83
  have f1 := typeOf70
  have f2 := methodAssignableTo
  have f3 := assignable70_43
  have l1 := lacks70_100
  have l2 := lacks70_103
  have l3 := has70_104
  have mU := methodUnwrap
  have G := grown_al (World.grownBy.refl w none) (.cells #[.pointer (some ⟨4, 65, none⟩), .pointer (some v), .int .u64 150] 83)
  have cU := unwrap_any j _ _ (grown_cell G hj (by simp))
  have c0 := grown_cell G h0 (by simp)

  go_enter Tryd.func42, Tryd.ntmps42
  go_wp2
  refine wp_loop_rounds 1 ?_
  rw [rounds_succ]
  go_wp2_with fail
  refine cU.mono ?_
  rintro ev w' ⟨rfl, rfl⟩
  go_wp2_with fail
  refine wp_loop_rounds 1 ?_
  rw [rounds_succ]
  go_wp2_with fail
  have G' := G
  refine (as_selfA43 e t v old _ (grown_cell G' hv (by simp)) (grown_cell G' ht (by simp)) (by rw [grown_frozen G' ht (by simp)]; exact hf)).mono ?_
  rintro ev w2 ⟨rfl, hh⟩
  have HH := hit_later G' hh
  clear hh
  go_wp2_with fail
  go_ret
  exact ⟨rfl, HH⟩


set_option maxRecDepth 100000 in
set_option maxHeartbeats 4000000 in
theorem asj43_hit2_2 (j o e t v : Addr) (sb cap : Nat) (old : Value) (w : World) (hj : w.cell? j = some (.slice (some ⟨sb, 0, none⟩) 2 cap)) (h0 : w.cell? ⟨sb, 0, none⟩ = some (.iface 46 (.pointer (some o)))) (h1 : w.cell? ⟨sb, 1, none⟩ = some (.iface 43 (.pointer (some e)))) (hv : w.cell? v = some (.pointer (some t))) (ht : w.cell? t = some old) (hf : w.frozen? t = false) :
    Calls Tryd.prog 42 #[.iface 70 (.pointer (some j)), .iface 65 (.pointer (some t)), .agg #[.pointer (some ⟨4, 65, none⟩), .pointer (some v), .int .u64 150], .iface 95 (.agg #[.pointer (some ⟨4, 43, none⟩)])] w fun ev w' => ev = .returned (.bool true) ∧ Hit t e w w' := by
  have g46 := h46
  have g83 := h83
  have f1 := typeOf70
  have f2 := methodAssignableTo
  have f3 := assignable70_43
  have l1 := lacks70_100
  have l2 := lacks70_103
  have l3 := has70_104
  have mU := methodUnwrap
  have G := grown_al (World.grownBy.refl w none) (.cells #[.pointer (some ⟨4, 65, none⟩), .pointer (some v), .int .u64 150] 83)
  have cU := unwrap_any j _ _ (grown_cell G hj (by simp))
  have c0 := grown_cell G h0 (by simp)
  have c1 := grown_cell G h1 (by simp)
  have cB : (w.alloc (.cells #[.pointer (some ⟨4, 65, none⟩), .pointer (some v), .int .u64 150] 83)).cell? ⟨w.heap.size, 0, none⟩ = some (.pointer (some ⟨4, 65, none⟩)) := by simp
  have cB1 : (w.alloc (.cells #[.pointer (some ⟨4, 65, none⟩), .pointer (some v), .int .u64 150] 83)).cell? ⟨w.heap.size, 1, none⟩ = some (.pointer (some v)) := by simp
  have cB2 : (w.alloc (.cells #[.pointer (some ⟨4, 65, none⟩), .pointer (some v), .int .u64 150] 83)).cell? ⟨w.heap.size, 2, none⟩ = some (.int .u64 150) := by simp
  go_enter Tryd.func42, Tryd.ntmps42
  go_wp2
  refine wp_loop_rounds 1 ?_
  rw [rounds_succ]
  go_wp2_with fail
  refine cU.mono ?_
  rintro ev w' ⟨rfl, rfl⟩
  go_wp2_with fail
  refine wp_loop_rounds 2 ?_
  rw [rounds_succ]
  go_wp2_with fail
  refine (as_otherA43 o t v _).mono ?_
  rintro ev w2 ⟨rfl, hh⟩
  have G' := grown_tr G hh
  have c1' := grown_cell hh c1 (by simp)
  have b' := grown_cell hh cB (by simp)
  have b1' := grown_cell hh cB1 (by simp)
  have b2' := grown_cell hh cB2 (by simp)
  clear hh
  go_wp2_with fail
  rw [rounds_succ]
  go_wp2_with fail
  refine (as_selfA43 e t v old _ (grown_cell G' hv (by simp)) (grown_cell G' ht (by simp)) (by rw [grown_frozen G' ht (by simp)]; exact hf)).mono ?_
  rintro ev w2 ⟨rfl, hh⟩
  have HH := hit_later G' hh
  clear hh
  go_wp2_with fail
  go_ret
  exact ⟨rfl, HH⟩


theorem as_selfA46 (e t v : Addr) (old : Value) (w : World) (hv : w.cell? v = some (.pointer (some t))) (ht : w.cell? t = some old) (hf : w.frozen? t = false) :
    Calls Tryd.prog 42 #[.iface 46 (.pointer (some e)), .iface 66 (.pointer (some t)), .agg #[.pointer (some ⟨4, 66, none⟩), .pointer (some v), .int .u64 150], .iface 95 (.agg #[.pointer (some ⟨4, 46, none⟩)])] w fun ev w' => ev = .returned (.bool true) ∧ Hit t e w w' :=
  (as_self46 e t v old w hv ht hf).mono fun ev w' ⟨h1, h2⟩ => ⟨h1, by rw [h2]; exact hit_of (grown_al (grown_al (World.grownBy.refl w none) _) _) ht hf⟩
theorem as_otherA46 (e t v : Addr) (w : World) :
    Calls Tryd.prog 42 #[.iface 43 (.pointer (some e)), .iface 66 (.pointer (some t)), .agg #[.pointer (some ⟨4, 66, none⟩), .pointer (some v), .int .u64 150], .iface 95 (.agg #[.pointer (some ⟨4, 46, none⟩)])] w fun ev w' => ev = .returned (.bool false) ∧ w.grownBy w' none :=
  (as_other46 e t v w).mono fun ev w' ⟨h1, h2⟩ => ⟨h1, by rw [h2]; exact grown_al (World.grownBy.refl w none) _⟩


set_option maxRecDepth 100000 in
set_option maxHeartbeats 4000000 in
theorem asj46_hit1_2 (j e t v : Addr) (sb cap : Nat) (old : Value) (w : World) (hj : w.cell? j = some (.slice (some ⟨sb, 0, none⟩) 2 cap)) (h0 : w.cell? ⟨sb, 0, none⟩ = some (.iface 46 (.pointer (some e)))) (hv : w.cell? v = some (.pointer (some t))) (ht : w.cell? t = some old) (hf : w.frozen? t = false) :
    Calls Tryd.prog 42 #[.iface 70 (.pointer (some j)), .iface 66 (.pointer (some t)), .agg #[.pointer (some ⟨4, 66, none⟩), .pointer (some v), .int .u64 150], .iface 95 (.agg #[.pointer (some ⟨4, 46, none⟩)])] w fun ev w' => ev = .returned (.bool true) ∧ Hit t e w w' := by
  have g46 := h46
  have g83 := h83
  have f1 := typeOf70
  have f2 := methodAssignableTo
  have f3 := assignable70_46
  have l1 := lacks70_100
  have l2 := lacks70_103
  have l3 := has70_104
  have mU := methodUnwrap
  have G := grown_al (World.grownBy.refl w none) (.cells #[.pointer (some ⟨4, 66, none⟩), .pointer (some v), .int .u64 150] 83)
  have cU := unwrap_any j _ _ (grown_cell G hj (by simp))
  have c0 := grown_cell G h0 (by simp)

  go_enter Tryd.func42, Tryd.ntmps42
  go_wp2
  refine wp_loop_rounds 1 ?_
  rw [rounds_succ]
  go_wp2_with fail
  refine cU.mono ?_
  rintro ev w' ⟨rfl, rfl⟩
  go_wp2_with fail
  refine wp_loop_rounds 1 ?_
  rw [rounds_succ]
  go_wp2_with fail
  have G' := G
  refine (as_selfA46 e t v old _ (grown_cell G' hv (by simp)) (grown_cell G' ht (by simp)) (by rw [grown_frozen G' ht (by simp)]; exact hf)).mono ?_
  rintro ev w2 ⟨rfl, hh⟩
  have HH := hit_later G' hh
  clear hh
  go_wp2_with fail
  go_ret
  exact ⟨rfl, HH⟩


set_option maxRecDepth 100000 in
set_option maxHeartbeats 4000000 in
theorem asj46_hit2_2 (j o e t v : Addr) (sb cap : Nat) (old : Value) (w : World) (hj : w.cell? j = some (.slice (some ⟨sb, 0, none⟩) 2 cap)) (h0 : w.cell? ⟨sb, 0, none⟩ = some (.iface 43 (.pointer (some o)))) (h1 : w.cell? ⟨sb, 1, none⟩ = some (.iface 46 (.pointer (some e)))) (hv : w.cell? v = some (.pointer (some t))) (ht : w.cell? t = some old) (hf : w.frozen? t = false) :
    Calls Tryd.prog 42 #[.iface 70 (.pointer (some j)), .iface 66 (.pointer (some t)), .agg #[.pointer (some ⟨4, 66, none⟩), .pointer (some v), .int .u64 150], .iface 95 (.agg #[.pointer (some ⟨4, 46, none⟩)])] w fun ev w' => ev = .returned (.bool true) ∧ Hit t e w w' := by
  have g46 := h46
  have g83 := h83
  have f1 := typeOf70
  have f2 := methodAssignableTo
  have f3 := assignable70_46
  have l1 := lacks70_100
  have l2 := lacks70_103
  have l3 := has70_104
  have mU := methodUnwrap
  have G := grown_al (World.grownBy.refl w none) (.cells #[.pointer (some ⟨4, 66, none⟩), .pointer (some v), .int .u64 150] 83)
  have cU := unwrap_any j _ _ (grown_cell G hj (by simp))
  have c0 := grown_cell G h0 (by simp)
  have c1 := grown_cell G h1 (by simp)
  have cB : (w.alloc (.cells #[.pointer (some ⟨4, 66, none⟩), .pointer (some v), .int .u64 150] 83)).cell? ⟨w.heap.size, 0, none⟩ = some (.pointer (some ⟨4, 66, none⟩)) := by simp
  have cB1 : (w.alloc (.cells #[.pointer (some ⟨4, 66, none⟩), .pointer (some v), .int .u64 150] 83)).cell? ⟨w.heap.size, 1, none⟩ = some (.pointer (some v)) := by simp
  have cB2 : (w.alloc (.cells #[.pointer (some ⟨4, 66, none⟩), .pointer (some v), .int .u64 150] 83)).cell? ⟨w.heap.size, 2, none⟩ = some (.int .u64 150) := by simp
  go_enter Tryd.func42, Tryd.ntmps42
  go_wp2
  refine wp_loop_rounds 1 ?_
  rw [rounds_succ]
  go_wp2_with fail
  refine cU.mono ?_
  rintro ev w' ⟨rfl, rfl⟩
  go_wp2_with fail
  refine wp_loop_rounds 2 ?_
  rw [rounds_succ]
  go_wp2_with fail
  refine (as_otherA46 o t v _).mono ?_
  rintro ev w2 ⟨rfl, hh⟩
  have G' := grown_tr G hh
  have c1' := grown_cell hh c1 (by simp)
  have b' := grown_cell hh cB (by simp)
  have b1' := grown_cell hh cB1 (by simp)
  have b2' := grown_cell hh cB2 (by simp)
  clear hh
  go_wp2_with fail
  rw [rounds_succ]
  go_wp2_with fail
  refine (as_selfA46 e t v old _ (grown_cell G' hv (by simp)) (grown_cell G' ht (by simp)) (by rw [grown_frozen G' ht (by simp)]; exact hf)).mono ?_
  rintro ev w2 ⟨rfl, hh⟩
  have HH := hit_later G' hh
  clear hh
  go_wp2_with fail
  go_ret
  exact ⟨rfl, HH⟩


set_option maxRecDepth 100000 in
set_option maxHeartbeats 4000000 in
theorem asj46_miss1_1 (j o t v : Addr) (sb cap : Nat) (w : World) (hj : w.cell? j = some (.slice (some ⟨sb, 0, none⟩) 1 cap)) (h0 : w.cell? ⟨sb, 0, none⟩ = some (.iface 43 (.pointer (some o)))) :
    Calls Tryd.prog 42 #[.iface 70 (.pointer (some j)), .iface 66 (.pointer (some t)), .agg #[.pointer (some ⟨4, 66, none⟩), .pointer (some v), .int .u64 150], .iface 95 (.agg #[.pointer (some ⟨4, 46, none⟩)])] w fun ev w' => ev = .returned (.bool false) ∧ w.grownBy w' none := by
  have g46 := h46
  have g83 := h83
  have f1 := typeOf70
  have f2 := methodAssignableTo
  have f3 := assignable70_46
  have l1 := lacks70_100
  have l2 := lacks70_103
  have l3 := has70_104
  have mU := methodUnwrap
  have G := grown_al (World.grownBy.refl w none) (.cells #[.pointer (some ⟨4, 66, none⟩), .pointer (some v), .int .u64 150] 83)
  have cU := unwrap_any j _ _ (grown_cell G hj (by simp))
  have c0 := grown_cell G h0 (by simp)

  go_enter Tryd.func42, Tryd.ntmps42
  go_wp2
  refine wp_loop_rounds 1 ?_
  rw [rounds_succ]
  go_wp2_with fail
  refine cU.mono ?_
  rintro ev w' ⟨rfl, rfl⟩
  go_wp2_with fail
  refine wp_loop_rounds 2 ?_
  rw [rounds_succ]
  go_wp2_with fail
  refine (as_otherA46 o t v _).mono ?_
  rintro ev w2 ⟨rfl, hh⟩
  have G' := grown_tr G hh
  clear hh
  go_wp2_with fail
  rw [rounds_succ]
  go_wp2_with fail
  go_ret
  exact ⟨rfl, G'⟩

end Go.Proofs.Qxb6614864aDoor
