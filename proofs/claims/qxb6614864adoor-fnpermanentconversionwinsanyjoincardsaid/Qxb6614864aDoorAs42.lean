import Derived.Test.Qxb6614864aDoorAsFacts
import Derived.OwnWalk
import Derived.Below
namespace Go.Proofs.Qxb6614864aDoor
open Go.RowKit Go.Extern.Stop Go.Stop Go.Extern

theorem lt_of_cell {w : World} {a : Addr} {x : Value} (h : w.cell? a = some x) : a.block < w.heap.size := World.block_lt_of_cell? w _ h
theorem grown_set {w w' : World} {t : Addr} (h : w.grownBy w' (some t.block)) (u : Value) : w.grownBy (w'.setCell t u) (some t.block) :=
  ⟨h.os, h.tape, h.output, by simpa using h.size, fun k hk hn => by rw [Below.heap_setCell _ _ _ _ (fun e => hn (by rw [e])), h.block k hk hn]⟩
theorem grown_al {w w' : World} {row : Option Nat} (h : w.grownBy w' row) (o : Obj) : w.grownBy (w'.alloc o) row :=
  ⟨h.os, h.tape, h.output, by have := h.size; simp; omega, fun k hk hn => by rw [Below.heap_alloc _ _ _ (Nat.lt_of_lt_of_le hk h.size), h.block k hk hn]⟩
theorem grown_none {w w' : World} {row : Option Nat} (h : w.grownBy w' none) : w.grownBy w' row :=
  ⟨h.os, h.tape, h.output, h.size, fun k hk _ => h.block k hk (by simp)⟩
theorem grown_tr {a b c : World} {row : Option Nat} (h : a.grownBy b row) (k : b.grownBy c row) : a.grownBy c row :=
  ⟨k.os.trans h.os, k.tape.trans h.tape, k.output.trans h.output, Nat.le_trans h.size k.size, fun i hi hn => by rw [k.block i (Nat.lt_of_lt_of_le hi h.size) hn, h.block i hi hn]⟩
theorem grown_cell {w w' : World} {row : Option Nat} (h : w.grownBy w' row) {a : Addr} {x : Value} (hc : w.cell? a = some x) (hn : some a.block ≠ row) : w'.cell? a = some x :=
  (World.cell?_of_block (w := w) (h.block a.block (lt_of_cell hc) hn)).trans hc
theorem grown_frozen {w w' : World} {row : Option Nat} (h : w.grownBy w' row) {a : Addr} {x : Value} (hc : w.cell? a = some x) (hn : some a.block ≠ row) : w'.frozen? a = w.frozen? a :=
  World.frozen?_of_block (w := w) (h.block a.block (lt_of_cell hc) hn)


set_option maxRecDepth 100000 in
set_option maxHeartbeats 4000000 in
/-- errors.as: the error's own type is the target's. -/
theorem as_self43 (e t v : Addr) (old : Value) (w : World) (hv : w.cell? v = some (.pointer (some t))) (ht : w.cell? t = some old) (hf : w.frozen? t = false) :
    Calls Tryd.prog 42 #[.iface 43 (.pointer (some e)), .iface 65 (.pointer (some t)), .agg #[.pointer (some ⟨4, 65, none⟩), .pointer (some v), .int .u64 150], .iface 95 (.agg #[.pointer (some ⟨4, 43, none⟩)])] w fun ev w' => ev = .returned (.bool true) ∧ w' = ((w.alloc (.cells #[.pointer (some ⟨4, 65, none⟩), .pointer (some v), .int .u64 150] 83)).alloc (.cells #[.pointer (some e)] 43)).setCell t (.pointer (some e)) := by
  have g46 := h46
  have g83 := h83
  have g47 := h47
  have g39 := h39
  have g48 := h48
  have f1 := typeOf43
  have f2 := methodAssignableTo
  have f3 := assignable43_43
  have f4 := valueOf43
  have ltv := lt_of_cell hv
  have ltt := lt_of_cell ht
  have el := elemV65 v t (w.alloc (.cells #[.pointer (some ⟨4, 65, none⟩), .pointer (some v), .int .u64 150] 83)) (by rw [World.cell?_alloc_lt _ _ v ltv]; exact hv)
  have st := set43 t ⟨w.heap.size + 1, 0, none⟩ e old ((w.alloc (.cells #[.pointer (some ⟨4, 65, none⟩), .pointer (some v), .int .u64 150] 83)).alloc (.cells #[.pointer (some e)] 43))
    (by rw [World.cell?_alloc_at _ _ _ _ (by simp)]; rfl)
    (by rw [World.cell?_alloc_lt _ _ t (by simp; omega), World.cell?_alloc_lt _ _ t ltt]; exact ht)
    (by rw [World.frozen?_alloc_old _ _ t (by simp; omega), World.frozen?_alloc_old _ _ t (Nat.ne_of_lt ltt)]; exact hf)
  go_enter Tryd.func42, Tryd.ntmps42
  go_wp2
  refine wp_loop_rounds 1 ?_
  rw [rounds_succ]
  go_wp2
  go_ret
  exact ⟨rfl, rfl⟩

set_option maxRecDepth 100000 in
set_option maxHeartbeats 4000000 in
/-- errors.as: another type, with no As and no Unwrap. -/
theorem as_other43 (e t v : Addr) (w : World) :
    Calls Tryd.prog 42 #[.iface 46 (.pointer (some e)), .iface 65 (.pointer (some t)), .agg #[.pointer (some ⟨4, 65, none⟩), .pointer (some v), .int .u64 150], .iface 95 (.agg #[.pointer (some ⟨4, 43, none⟩)])] w fun ev w' => ev = .returned (.bool false) ∧ w' = w.alloc (.cells #[.pointer (some ⟨4, 65, none⟩), .pointer (some v), .int .u64 150] 83) := by
  have g46 := h46
  have g83 := h83
  have f1 := typeOf46
  have f2 := methodAssignableTo
  have f3 := assignable46_43
  have l1 := lacks46_100
  have l2 := lacks46_103
  have l3 := lacks46_104
  go_enter Tryd.func42, Tryd.ntmps42
  go_wp2
  refine wp_loop_rounds 1 ?_
  rw [rounds_succ]
  go_wp2
  go_ret
  exact ⟨rfl, rfl⟩


set_option maxRecDepth 100000 in
set_option maxHeartbeats 4000000 in
/-- errors.as: the error's own type is the target's. -/
theorem as_self46 (e t v : Addr) (old : Value) (w : World) (hv : w.cell? v = some (.pointer (some t))) (ht : w.cell? t = some old) (hf : w.frozen? t = false) :
    Calls Tryd.prog 42 #[.iface 46 (.pointer (some e)), .iface 66 (.pointer (some t)), .agg #[.pointer (some ⟨4, 66, none⟩), .pointer (some v), .int .u64 150], .iface 95 (.agg #[.pointer (some ⟨4, 46, none⟩)])] w fun ev w' => ev = .returned (.bool true) ∧ w' = ((w.alloc (.cells #[.pointer (some ⟨4, 66, none⟩), .pointer (some v), .int .u64 150] 83)).alloc (.cells #[.pointer (some e)] 46)).setCell t (.pointer (some e)) := by
  have g46 := h46
  have g83 := h83
  have g47 := h47
  have g39 := h39
  have g48 := h48
  have f1 := typeOf46
  have f2 := methodAssignableTo
  have f3 := assignable46_46
  have f4 := valueOf46
  have ltv := lt_of_cell hv
  have ltt := lt_of_cell ht
  have el := elemV66 v t (w.alloc (.cells #[.pointer (some ⟨4, 66, none⟩), .pointer (some v), .int .u64 150] 83)) (by rw [World.cell?_alloc_lt _ _ v ltv]; exact hv)
  have st := set46 t ⟨w.heap.size + 1, 0, none⟩ e old ((w.alloc (.cells #[.pointer (some ⟨4, 66, none⟩), .pointer (some v), .int .u64 150] 83)).alloc (.cells #[.pointer (some e)] 46))
    (by rw [World.cell?_alloc_at _ _ _ _ (by simp)]; rfl)
    (by rw [World.cell?_alloc_lt _ _ t (by simp; omega), World.cell?_alloc_lt _ _ t ltt]; exact ht)
    (by rw [World.frozen?_alloc_old _ _ t (by simp; omega), World.frozen?_alloc_old _ _ t (Nat.ne_of_lt ltt)]; exact hf)
  go_enter Tryd.func42, Tryd.ntmps42
  go_wp2
  refine wp_loop_rounds 1 ?_
  rw [rounds_succ]
  go_wp2
  go_ret
  exact ⟨rfl, rfl⟩

set_option maxRecDepth 100000 in
set_option maxHeartbeats 4000000 in
/-- errors.as: another type, with no As and no Unwrap. -/
theorem as_other46 (e t v : Addr) (w : World) :
    Calls Tryd.prog 42 #[.iface 43 (.pointer (some e)), .iface 66 (.pointer (some t)), .agg #[.pointer (some ⟨4, 66, none⟩), .pointer (some v), .int .u64 150], .iface 95 (.agg #[.pointer (some ⟨4, 46, none⟩)])] w fun ev w' => ev = .returned (.bool false) ∧ w' = w.alloc (.cells #[.pointer (some ⟨4, 66, none⟩), .pointer (some v), .int .u64 150] 83) := by
  have g46 := h46
  have g83 := h83
  have f1 := typeOf43
  have f2 := methodAssignableTo
  have f3 := assignable43_46
  have l1 := lacks43_100
  have l2 := lacks43_103
  have l3 := lacks43_104
  go_enter Tryd.func42, Tryd.ntmps42
  go_wp2
  refine wp_loop_rounds 1 ?_
  rw [rounds_succ]
  go_wp2
  go_ret
  exact ⟨rfl, rfl⟩

end Go.Proofs.Qxb6614864aDoor
