import Derived.Test.Qxb6614864aDoorAsJ
namespace Go.Proofs.Qxb6614864aDoor
open Go.RowKit Go.Extern.Stop Go.Stop Go.Extern

/-- errors.As(nil, target). -/
theorem as_nil (t : Value) (w : World) :
    Calls Tryd.prog 34 #[.nilIface, t] w fun e w' => e = .returned (.bool false) ∧ w' = w := by
  go_enter Tryd.func34, Tryd.ntmps34
  go_wp2
  go_ret
  exact ⟨rfl, rfl⟩


set_option maxRecDepth 100000 in
set_option maxHeartbeats 4000000 in
/-- errors.As, by what errors.as does. -/
theorem as43_43 (x : Value) (t : Addr) (b : Bool) (R : World → Prop) (w : World) (hg : w.cell? ⟨1, 0, none⟩ = some (.iface 95 (.agg #[.pointer (some ⟨4, 32, none⟩)])))
    (h42 : ∀ v w2, w.grownBy w2 none → w2.cell? v = some (.pointer (some t)) → Calls Tryd.prog 42 #[.iface 43 x, .iface 65 (.pointer (some t)), .agg #[.pointer (some ⟨4, 65, none⟩), .pointer (some v), .int .u64 150], .iface 95 (.agg #[.pointer (some ⟨4, 43, none⟩)])] w2 fun ev w' => ev = .returned (.bool b) ∧ R w') :
    Calls Tryd.prog 34 #[.iface 43 x, .iface 65 (.pointer (some t))] w fun ev w' => ev = .returned (.bool b) ∧ R w' := by
  have g39 := h39
  have g40 := h40
  have g41 := h41
  have g63 := h63
  have g85 := h85
  have g86 := h86
  have f6 := valueOf65
  have f7 := type65
  have mK := methodKind
  have mE := methodElem
  have mI := methodImplements
  have k1 := kind65
  have k2 := kind43
  have e1 := elem65
  have i1 := implements43
  have G1 := grown_al (World.grownBy.refl w none) (.cells #[.pointer (some t)] 65)
  have G2 := grown_al G1 (.cells #[.pointer (some ⟨4, 65, none⟩), .pointer (some ⟨w.heap.size, 0, none⟩), .int .u64 150] 83)
  have c2 := grown_cell (grown_al (World.grownBy.refl (w.alloc (.cells #[.pointer (some t)] 65)) none) (.cells #[.pointer (some ⟨4, 65, none⟩), .pointer (some ⟨w.heap.size, 0, none⟩), .int .u64 150] 83)) (a := ⟨w.heap.size, 0, none⟩) (x := .pointer (some t)) (by simp) (by simp)
  have n8 := isNil65 _ _ _ c2
  have hg2 := grown_cell G2 hg (by simp)
  have H42 := h42 _ _ G2 c2
  go_enter Tryd.func34, Tryd.ntmps34
  go_wp2_with fail
  refine H42.mono ?_
  rintro e w' ⟨rfl, hR⟩
  go_wp2
  go_ret
  exact ⟨rfl, hR⟩


set_option maxRecDepth 100000 in
set_option maxHeartbeats 4000000 in
/-- errors.As, by what errors.as does. -/
theorem as43_46 (x : Value) (t : Addr) (b : Bool) (R : World → Prop) (w : World) (hg : w.cell? ⟨1, 0, none⟩ = some (.iface 95 (.agg #[.pointer (some ⟨4, 32, none⟩)])))
    (h42 : ∀ v w2, w.grownBy w2 none → w2.cell? v = some (.pointer (some t)) → Calls Tryd.prog 42 #[.iface 46 x, .iface 65 (.pointer (some t)), .agg #[.pointer (some ⟨4, 65, none⟩), .pointer (some v), .int .u64 150], .iface 95 (.agg #[.pointer (some ⟨4, 43, none⟩)])] w2 fun ev w' => ev = .returned (.bool b) ∧ R w') :
    Calls Tryd.prog 34 #[.iface 46 x, .iface 65 (.pointer (some t))] w fun ev w' => ev = .returned (.bool b) ∧ R w' := by
  have g39 := h39
  have g40 := h40
  have g41 := h41
  have g63 := h63
  have g85 := h85
  have g86 := h86
  have f6 := valueOf65
  have f7 := type65
  have mK := methodKind
  have mE := methodElem
  have mI := methodImplements
  have k1 := kind65
  have k2 := kind43
  have e1 := elem65
  have i1 := implements43
  have G1 := grown_al (World.grownBy.refl w none) (.cells #[.pointer (some t)] 65)
  have G2 := grown_al G1 (.cells #[.pointer (some ⟨4, 65, none⟩), .pointer (some ⟨w.heap.size, 0, none⟩), .int .u64 150] 83)
  have c2 := grown_cell (grown_al (World.grownBy.refl (w.alloc (.cells #[.pointer (some t)] 65)) none) (.cells #[.pointer (some ⟨4, 65, none⟩), .pointer (some ⟨w.heap.size, 0, none⟩), .int .u64 150] 83)) (a := ⟨w.heap.size, 0, none⟩) (x := .pointer (some t)) (by simp) (by simp)
  have n8 := isNil65 _ _ _ c2
  have hg2 := grown_cell G2 hg (by simp)
  have H42 := h42 _ _ G2 c2
  go_enter Tryd.func34, Tryd.ntmps34
  go_wp2_with fail
  refine H42.mono ?_
  rintro e w' ⟨rfl, hR⟩
  go_wp2
  go_ret
  exact ⟨rfl, hR⟩


set_option maxRecDepth 100000 in
set_option maxHeartbeats 4000000 in
/-- errors.As, by what errors.as does. -/
theorem as43_70 (x : Value) (t : Addr) (b : Bool) (R : World → Prop) (w : World) (hg : w.cell? ⟨1, 0, none⟩ = some (.iface 95 (.agg #[.pointer (some ⟨4, 32, none⟩)])))
    (h42 : ∀ v w2, w.grownBy w2 none → w2.cell? v = some (.pointer (some t)) → Calls Tryd.prog 42 #[.iface 70 x, .iface 65 (.pointer (some t)), .agg #[.pointer (some ⟨4, 65, none⟩), .pointer (some v), .int .u64 150], .iface 95 (.agg #[.pointer (some ⟨4, 43, none⟩)])] w2 fun ev w' => ev = .returned (.bool b) ∧ R w') :
    Calls Tryd.prog 34 #[.iface 70 x, .iface 65 (.pointer (some t))] w fun ev w' => ev = .returned (.bool b) ∧ R w' := by
  have g39 := h39
  have g40 := h40
  have g41 := h41
  have g63 := h63
  have g85 := h85
  have g86 := h86
  have f6 := valueOf65
  have f7 := type65
  have mK := methodKind
  have mE := methodElem
  have mI := methodImplements
  have k1 := kind65
  have k2 := kind43
  have e1 := elem65
  have i1 := implements43
  have G1 := grown_al (World.grownBy.refl w none) (.cells #[.pointer (some t)] 65)
  have G2 := grown_al G1 (.cells #[.pointer (some ⟨4, 65, none⟩), .pointer (some ⟨w.heap.size, 0, none⟩), .int .u64 150] 83)
  have c2 := grown_cell (grown_al (World.grownBy.refl (w.alloc (.cells #[.pointer (some t)] 65)) none) (.cells #[.pointer (some ⟨4, 65, none⟩), .pointer (some ⟨w.heap.size, 0, none⟩), .int .u64 150] 83)) (a := ⟨w.heap.size, 0, none⟩) (x := .pointer (some t)) (by simp) (by simp)
  have n8 := isNil65 _ _ _ c2
  have hg2 := grown_cell G2 hg (by simp)
  have H42 := h42 _ _ G2 c2
  go_enter Tryd.func34, Tryd.ntmps34
  go_wp2_with fail
  refine H42.mono ?_
  rintro e w' ⟨rfl, hR⟩
  go_wp2
  go_ret
  exact ⟨rfl, hR⟩


set_option maxRecDepth 100000 in
set_option maxHeartbeats 4000000 in
/-- errors.As, by what errors.as does. -/
theorem as46_43 (x : Value) (t : Addr) (b : Bool) (R : World → Prop) (w : World) (hg : w.cell? ⟨1, 0, none⟩ = some (.iface 95 (.agg #[.pointer (some ⟨4, 32, none⟩)])))
    (h42 : ∀ v w2, w.grownBy w2 none → w2.cell? v = some (.pointer (some t)) → Calls Tryd.prog 42 #[.iface 43 x, .iface 66 (.pointer (some t)), .agg #[.pointer (some ⟨4, 66, none⟩), .pointer (some v), .int .u64 150], .iface 95 (.agg #[.pointer (some ⟨4, 46, none⟩)])] w2 fun ev w' => ev = .returned (.bool b) ∧ R w') :
    Calls Tryd.prog 34 #[.iface 43 x, .iface 66 (.pointer (some t))] w fun ev w' => ev = .returned (.bool b) ∧ R w' := by
  have g39 := h39
  have g40 := h40
  have g41 := h41
  have g63 := h63
  have g85 := h85
  have g86 := h86
  have f6 := valueOf66
  have f7 := type66
  have mK := methodKind
  have mE := methodElem
  have mI := methodImplements
  have k1 := kind66
  have k2 := kind46
  have e1 := elem66
  have i1 := implements46
  have G1 := grown_al (World.grownBy.refl w none) (.cells #[.pointer (some t)] 66)
  have G2 := grown_al G1 (.cells #[.pointer (some ⟨4, 66, none⟩), .pointer (some ⟨w.heap.size, 0, none⟩), .int .u64 150] 83)
  have c2 := grown_cell (grown_al (World.grownBy.refl (w.alloc (.cells #[.pointer (some t)] 66)) none) (.cells #[.pointer (some ⟨4, 66, none⟩), .pointer (some ⟨w.heap.size, 0, none⟩), .int .u64 150] 83)) (a := ⟨w.heap.size, 0, none⟩) (x := .pointer (some t)) (by simp) (by simp)
  have n8 := isNil66 _ _ _ c2
  have hg2 := grown_cell G2 hg (by simp)
  have H42 := h42 _ _ G2 c2
  go_enter Tryd.func34, Tryd.ntmps34
  go_wp2_with fail
  refine H42.mono ?_
  rintro e w' ⟨rfl, hR⟩
  go_wp2
  go_ret
  exact ⟨rfl, hR⟩


set_option maxRecDepth 100000 in
set_option maxHeartbeats 4000000 in
/-- errors.As, by what errors.as does. -/
theorem as46_46 (x : Value) (t : Addr) (b : Bool) (R : World → Prop) (w : World) (hg : w.cell? ⟨1, 0, none⟩ = some (.iface 95 (.agg #[.pointer (some ⟨4, 32, none⟩)])))
    (h42 : ∀ v w2, w.grownBy w2 none → w2.cell? v = some (.pointer (some t)) → Calls Tryd.prog 42 #[.iface 46 x, .iface 66 (.pointer (some t)), .agg #[.pointer (some ⟨4, 66, none⟩), .pointer (some v), .int .u64 150], .iface 95 (.agg #[.pointer (some ⟨4, 46, none⟩)])] w2 fun ev w' => ev = .returned (.bool b) ∧ R w') :
    Calls Tryd.prog 34 #[.iface 46 x, .iface 66 (.pointer (some t))] w fun ev w' => ev = .returned (.bool b) ∧ R w' := by
  have g39 := h39
  have g40 := h40
  have g41 := h41
  have g63 := h63
  have g85 := h85
  have g86 := h86
  have f6 := valueOf66
  have f7 := type66
  have mK := methodKind
  have mE := methodElem
  have mI := methodImplements
  have k1 := kind66
  have k2 := kind46
  have e1 := elem66
  have i1 := implements46
  have G1 := grown_al (World.grownBy.refl w none) (.cells #[.pointer (some t)] 66)
  have G2 := grown_al G1 (.cells #[.pointer (some ⟨4, 66, none⟩), .pointer (some ⟨w.heap.size, 0, none⟩), .int .u64 150] 83)
  have c2 := grown_cell (grown_al (World.grownBy.refl (w.alloc (.cells #[.pointer (some t)] 66)) none) (.cells #[.pointer (some ⟨4, 66, none⟩), .pointer (some ⟨w.heap.size, 0, none⟩), .int .u64 150] 83)) (a := ⟨w.heap.size, 0, none⟩) (x := .pointer (some t)) (by simp) (by simp)
  have n8 := isNil66 _ _ _ c2
  have hg2 := grown_cell G2 hg (by simp)
  have H42 := h42 _ _ G2 c2
  go_enter Tryd.func34, Tryd.ntmps34
  go_wp2_with fail
  refine H42.mono ?_
  rintro e w' ⟨rfl, hR⟩
  go_wp2
  go_ret
  exact ⟨rfl, hR⟩


set_option maxRecDepth 100000 in
set_option maxHeartbeats 4000000 in
/-- errors.As, by what errors.as does. -/
theorem as46_70 (x : Value) (t : Addr) (b : Bool) (R : World → Prop) (w : World) (hg : w.cell? ⟨1, 0, none⟩ = some (.iface 95 (.agg #[.pointer (some ⟨4, 32, none⟩)])))
    (h42 : ∀ v w2, w.grownBy w2 none → w2.cell? v = some (.pointer (some t)) → Calls Tryd.prog 42 #[.iface 70 x, .iface 66 (.pointer (some t)), .agg #[.pointer (some ⟨4, 66, none⟩), .pointer (some v), .int .u64 150], .iface 95 (.agg #[.pointer (some ⟨4, 46, none⟩)])] w2 fun ev w' => ev = .returned (.bool b) ∧ R w') :
    Calls Tryd.prog 34 #[.iface 70 x, .iface 66 (.pointer (some t))] w fun ev w' => ev = .returned (.bool b) ∧ R w' := by
  have g39 := h39
  have g40 := h40
  have g41 := h41
  have g63 := h63
  have g85 := h85
  have g86 := h86
  have f6 := valueOf66
  have f7 := type66
  have mK := methodKind
  have mE := methodElem
  have mI := methodImplements
  have k1 := kind66
  have k2 := kind46
  have e1 := elem66
  have i1 := implements46
  have G1 := grown_al (World.grownBy.refl w none) (.cells #[.pointer (some t)] 66)
  have G2 := grown_al G1 (.cells #[.pointer (some ⟨4, 66, none⟩), .pointer (some ⟨w.heap.size, 0, none⟩), .int .u64 150] 83)
  have c2 := grown_cell (grown_al (World.grownBy.refl (w.alloc (.cells #[.pointer (some t)] 66)) none) (.cells #[.pointer (some ⟨4, 66, none⟩), .pointer (some ⟨w.heap.size, 0, none⟩), .int .u64 150] 83)) (a := ⟨w.heap.size, 0, none⟩) (x := .pointer (some t)) (by simp) (by simp)
  have n8 := isNil66 _ _ _ c2
  have hg2 := grown_cell G2 hg (by simp)
  have H42 := h42 _ _ G2 c2
  go_enter Tryd.func34, Tryd.ntmps34
  go_wp2_with fail
  refine H42.mono ?_
  rintro e w' ⟨rfl, hR⟩
  go_wp2
  go_ret
  exact ⟨rfl, hR⟩

end Go.Proofs.Qxb6614864aDoor
