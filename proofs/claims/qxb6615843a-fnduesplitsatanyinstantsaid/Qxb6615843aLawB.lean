import Derived.Test.Qxb6615843aLawA
namespace Go.Proofs.Qxb6615843a
open Go.RowKit Go.Sort

theorem hidMk {p : Prop} (h : p) : Hid p := h

/-- ZZinstant, the time laid open. -/
def Inst (x n s : Int) : Prop := ∀ W, Calls Try.prog 6 #[.int .i64 x] W fun e w' => e = .returned (.agg #[.int .u64 n, .int .i64 s, .pointer none]) ∧ Gr W w'

/-- ZZwatcherAt. -/
def Wat (n s : Int) : Prop := ∀ W, Calls Try.prog 5 #[.agg #[.int .u64 n, .int .i64 s, .pointer none]] W fun e w' => Gr W w' ∧ ∃ b, e = .returned (.pointer (some ⟨b, 0, none⟩)) ∧ w'.cell? ⟨b, 6, none⟩ = some (.int .u64 n) ∧ w'.cell? ⟨b, 7, none⟩ = some (.int .i64 s) ∧ w'.cell? ⟨b, 8, none⟩ = some (.pointer none)

/-- ZZdue at two times answers v. -/
def Due (n s : Int) (x : Nat) (p a b c d : Int) (v : Bool) : Prop := ∀ W k, W.cell? ⟨k, 6, none⟩ = some (.int .u64 n) → W.cell? ⟨k, 7, none⟩ = some (.int .i64 s) → W.cell? ⟨k, 8, none⟩ = some (.pointer none) →
  Calls Try.prog 7 #[.pointer (some ⟨k, 0, none⟩), .float .f64 x, .int .i64 p, .agg #[.int .u64 a, .int .i64 b, .pointer none], .agg #[.int .u64 c, .int .i64 d, .pointer none]] W fun e w' => e = .returned (.bool v) ∧ Gr W w'

theorem at_new {W W' : World} {a b c : Value} {ty : TypeId} (g : Gr (W.alloc (.cells #[a, b, c] ty)) W') : Gr W W' ∧ W'.cell? ⟨W.heap.size, 0, none⟩ = some a ∧ W'.cell? ⟨W.heap.size, 1, none⟩ = some b ∧ W'.cell? ⟨W.heap.size, 2, none⟩ = some c :=
  ⟨((Gr.refl _).alloc _).trans g, g.cell (cell_of_row _ _ 0 _ _ _ (heap_alloc_new _ _)), g.cell (cell_of_row _ _ 1 _ _ _ (heap_alloc_new _ _)), g.cell (cell_of_row _ _ 2 _ _ _ (heap_alloc_new _ _))⟩

/-- The law's four times in memory. -/
structure Env (on os ln ls mn ms tn ts : Int) (b bl bm bt : Nat) (w : World) : Prop where
  c6 : w.cell? ⟨b, 6, none⟩ = some (.int .u64 on)
  c7 : w.cell? ⟨b, 7, none⟩ = some (.int .i64 os)
  c8 : w.cell? ⟨b, 8, none⟩ = some (.pointer none)
  l0 : w.cell? ⟨bl, 0, none⟩ = some (.int .u64 ln)
  l1 : w.cell? ⟨bl, 1, none⟩ = some (.int .i64 ls)
  l2 : w.cell? ⟨bl, 2, none⟩ = some (.pointer none)
  m0 : w.cell? ⟨bm, 0, none⟩ = some (.int .u64 mn)
  m1 : w.cell? ⟨bm, 1, none⟩ = some (.int .i64 ms)
  m2 : w.cell? ⟨bm, 2, none⟩ = some (.pointer none)
  t0 : w.cell? ⟨bt, 0, none⟩ = some (.int .u64 tn)
  t1 : w.cell? ⟨bt, 1, none⟩ = some (.int .i64 ts)
  t2 : w.cell? ⟨bt, 2, none⟩ = some (.pointer none)

theorem Env.gr {on os ln ls mn ms tn ts : Int} {b bl bm bt : Nat} {w w' : World} (h : Env on os ln ls mn ms tn ts b bl bm bt w) (g : Gr w w') : Env on os ln ls mn ms tn ts b bl bm bt w' :=
  ⟨g.cell h.c6, g.cell h.c7, g.cell h.c8, g.cell h.l0, g.cell h.l1, g.cell h.l2, g.cell h.m0, g.cell h.m1, g.cell h.m2, g.cell h.t0, g.cell h.t1, g.cell h.t2⟩

/-- 'ph >= 0', 'ph <= 1'. -/
def phGe (x : Nat) : Bool := FloatKind.f64.format.order x 0 == some .gt || FloatKind.f64.format.order x 0 == some .eq
def phLe (x : Nat) : Bool := FloatKind.f64.format.order x 4607182418800017408 == some .lt || FloatKind.f64.format.order x 4607182418800017408 == some .eq

set_option maxRecDepth 100000 in
set_option maxHeartbeats 400000 in
theorem law_start (o p l m t : Int) (x : Nat) (w : World) (on os ln ls mn ms tn ts : Int) (b0 : inI o = true) (b1 : inI l = true) (b2 : inI m = true) (b3 : inI t = true) (b4 : decide (1152921504606846976 < p) = false)
    (Io : Inst o on os) (Il : Inst l ln ls) (Im : Inst m mn ms) (It : Inst t tn ts) (Wo : Wat on os)
    (D0 : p ≤ 0 ∨ l = 0 → Due on os x p ln ls tn ts true)
    (D1 : 0 < p → l ≠ 0 → phGe x = true → phLe x = true → ∃ pn ps vlt vlm vmt, Inst (l + p) pn ps ∧ IntKind.i64.wrap (l + p) = l + p ∧ Due on os x p ln ls ln ls false ∧ Due on os x p ln ls pn ps true ∧ Due on os x p ln ls tn ts vlt ∧ Due on os x p ln ls mn ms vlm ∧ (m ≠ 0 → Due on os x p mn ms tn ts vmt) ∧
      (t ≤ l → vlt = false) ∧ (l + p ≤ t → vlt = true) ∧ (l ≤ m → m ≤ t → vlt = (vlm || vmt))) :
    Calls Try.prog 3 #[.int .i64 o, .float .f64 x, .int .i64 p, .int .i64 l, .int .i64 m, .int .i64 t] w fun e w' => e = .returned (.bool true) ∧ Gr w w' := by
  have I := inInstants4
  have hmix := mixed
  have HD1 : Hid (0 < p → l ≠ 0 → phGe x = true → phLe x = true → ∃ pn ps vlt vlm vmt, Inst (l + p) pn ps ∧ IntKind.i64.wrap (l + p) = l + p ∧ Due on os x p ln ls ln ls false ∧ Due on os x p ln ls pn ps true ∧ Due on os x p ln ls tn ts vlt ∧ Due on os x p ln ls mn ms vlm ∧ (m ≠ 0 → Due on os x p mn ms tn ts vmt) ∧
      (t ≤ l → vlt = false) ∧ (l + p ≤ t → vlt = true) ∧ (l ≤ m → m ≤ t → vlt = (vlm || vmt))) := D1
  have HD0 : Hid (p ≤ 0 ∨ l = 0 → Due on os x p ln ls tn ts true) := D0
  clear D0 D1
  go_enter Try.func3, Try.ntmps3
  go_wp2_with (first | (go_at_call 4; refine (I _ _).mono ?_; rintro e w' ⟨rfl, hw⟩; subst w'))
  refine (Io w).mono ?_
  rintro e w1 ⟨rfl, g1⟩
  have G1 : Hid (Gr w w1) := g1
  clear g1
  go_wp2_with fail
  refine (Wo w1).mono ?_
  rintro e w2 ⟨g2, b, rfl, c6, c7, c8⟩
  have G2 : Hid (Gr w w2) := G1.out.trans g2
  clear g2 G1
  go_wp2_with fail
  refine (Il w2).mono ?_
  rintro e w3 ⟨rfl, g3⟩
  have G3 : Hid (Gr w w3) := G2.out.trans g3
  replace c6 := g3.cell c6
  replace c7 := g3.cell c7
  replace c8 := g3.cell c8
  clear g3 G2
  go_wp2_with fail
  refine (Im _).mono ?_
  rintro e w4 ⟨rfl, h4⟩
  obtain ⟨g4, l0, l1, l2⟩ := at_new h4
  clear h4
  have G4 : Hid (Gr w w4) := G3.out.trans g4
  replace c6 := g4.cell c6
  replace c7 := g4.cell c7
  replace c8 := g4.cell c8
  clear g4 G3
  generalize w3.heap.size = bl at *
  go_wp2_with fail
  refine (It _).mono ?_
  rintro e w5 ⟨rfl, h5⟩
  obtain ⟨g5, m0, m1, m2⟩ := at_new h5
  clear h5
  have G5 : Hid (Gr w w5) := G4.out.trans g5
  replace c6 := g5.cell c6
  replace c7 := g5.cell c7
  replace c8 := g5.cell c8
  replace l0 := g5.cell l0
  replace l1 := g5.cell l1
  replace l2 := g5.cell l2
  clear g5 G4
  generalize w4.heap.size = bm at *
  obtain ⟨w6, hw6⟩ : ∃ w6, w6 = w5.alloc (Obj.cells #[Value.int IntKind.u64 tn, Value.int IntKind.i64 ts, Value.pointer none] 29) := ⟨_, rfl⟩
  obtain ⟨g6, t0, t1, t2⟩ := at_new (hw6 ▸ Gr.refl _ : Gr (w5.alloc (Obj.cells #[Value.int IntKind.u64 tn, Value.int IntKind.i64 ts, Value.pointer none] 29)) w6)
  have G6 : Hid (Gr w w6) := G5.out.trans g6
  have HW : Hid (w6 = w5.alloc (Obj.cells #[Value.int IntKind.u64 tn, Value.int IntKind.i64 ts, Value.pointer none] 29)) := hw6
  replace c6 := g6.cell c6
  replace c7 := g6.cell c7
  replace c8 := g6.cell c8
  replace l0 := g6.cell l0
  replace l1 := g6.cell l1
  replace l2 := g6.cell l2
  replace m0 := g6.cell m0
  replace m1 := g6.cell m1
  replace m2 := g6.cell m2
  have E6 : Env on os ln ls mn ms tn ts b bl bm w5.heap.size w6 := ⟨c6, c7, c8, l0, l1, l2, m0, m1, m2, t0, t1, t2⟩
  clear c6 c7 c8 l0 l1 l2 m0 m1 m2 t0 t1 t2
  have HE : Hid (Env on os ln ls mn ms tn ts b bl bm w5.heap.size w6) := E6
  have E6' := E6
  rw [hw6] at E6'
  obtain ⟨c6, c7, c8, l0, l1, l2, m0, m1, m2, t0, t1, t2⟩ := E6'
  clear hw6 g6 G5 Io Il Im It Wo I E6
  by_cases hp : p ≤ 0
  · have b5 : decide (p ≤ 0) = true := by simp [hp]
    have D := HD0.out (.inl hp)
    clear HD0 HD1 hp
    go_wp2_with fail
    rw [← HW.out]
    refine (D w6 b HE.out.c6 HE.out.c7 HE.out.c8).mono ?_
    rintro e w7 ⟨rfl, g7⟩
    have G7 : Hid (Gr w w7) := G6.out.trans g7
    clear g7
    go_wp2
    go_ret
    exact ⟨rfl, G7.out⟩
  have b5 : decide (p ≤ 0) = false := by simp; omega
  by_cases hl : l = 0
  · have b6 : (l == 0) = true := by simp [hl]
    have D := HD0.out (.inr hl)
    clear HD0 HD1 hp hl
    go_wp2_with fail
    rw [← HW.out]
    refine (D w6 b HE.out.c6 HE.out.c7 HE.out.c8).mono ?_
    rintro e w7 ⟨rfl, g7⟩
    have G7 : Hid (Gr w w7) := G6.out.trans g7
    clear g7
    go_wp2
    go_ret
    exact ⟨rfl, G7.out⟩
  have b6 : (l == 0) = false := by simp [hl]
  cases hge : phGe x
  · unfold phGe at hge
    clear HD0 HD1 hp hl
    go_wp2
    go_ret
    rw [← HW.out]
    exact ⟨rfl, G6.out⟩
  cases hle : phLe x
  · unfold phLe at hle
    unfold phGe at hge
    clear HD0 HD1 hp hl
    go_wp2
    go_ret
    rw [← HW.out]
    exact ⟨rfl, G6.out⟩
  have hp0 : 0 < p := by omega
  obtain ⟨pn, ps, vlt, vlm, vmt, Ip, hwr, Dll, Dlp, Dlt, Dlm, Dmt, f1, f2, f3⟩ := HD1.out hp0 hl hge hle
  have F1 : Hid (t ≤ l → vlt = false) := f1
  have F2 : Hid (l + p ≤ t → vlt = true) := f2
  have F3 : Hid (l ≤ m → m ≤ t → vlt = (vlm || vmt)) := f3
  have HM : Hid (m ≠ 0 → Due on os x p mn ms tn ts vmt) := Dmt
  unfold phGe at hge
  unfold phLe at hle
  clear HD0 HD1 hp hl f1 f2 f3 Dmt
  go_wp2_with fail
  rw [← HW.out]
  refine (Dll w6 b HE.out.c6 HE.out.c7 HE.out.c8).mono ?_
  rintro e w7 ⟨rfl, g7⟩
  have G7 : Hid (Gr w w7) := G6.out.trans g7
  have HE7 := HE.out.gr g7
  clear g7 G6 HE HW c6 c7 c8 l0 l1 l2 m0 m1 m2 t0 t1 t2 Dll
  generalize w5.heap.size = bt at *
  go_wp2_with fail
  have c6 := cell_grown (World.block_lt_of_cell? w7 _ HE7.c6) HE7.c6
  have c7 := cell_grown (World.block_lt_of_cell? w7 _ HE7.c7) HE7.c7
  have c8 := cell_grown (World.block_lt_of_cell? w7 _ HE7.c8) HE7.c8
  have l0 := cell_grown (World.block_lt_of_cell? w7 _ HE7.l0) HE7.l0
  have l1 := cell_grown (World.block_lt_of_cell? w7 _ HE7.l1) HE7.l1
  have l2 := cell_grown (World.block_lt_of_cell? w7 _ HE7.l2) HE7.l2
  have K6 : ∀ n' os', Calls Try.prog 6 #[.int .i64 (l + p)] (grow (w7.drewN n') os') fun e w'' => e = .returned (.agg #[.int .u64 pn, .int .i64 ps, .pointer none]) ∧ ∃ p : GrownBy, w'' = grow (w7.drewN p.n) p.os :=
    fun n' os' => Calls.grown_of ((Ip _).mono (fun e w' h => ⟨h.1, h.2.form⟩))
  have K7 : ∀ n' os', Calls Try.prog 7 #[.pointer (some ⟨b, 0, none⟩), .float .f64 x, .int .i64 p, .agg #[.int .u64 ln, .int .i64 ls, .pointer none], .agg #[.int .u64 pn, .int .i64 ps, .pointer none]] (grow (w7.drewN n') os') fun e w'' => e = .returned (.bool true) ∧ ∃ p : GrownBy, w'' = grow (w7.drewN p.n) p.os :=
    fun n' os' => Calls.grown_of ((Dlp _ _ (c6 _ _) (c7 _ _) (c8 _ _)).mono (fun e w' h => ⟨h.1, h.2.form⟩))
  go_quiet_grown (first | (go_at_call 6; with_reducible exact K6 _ _) | (go_at_call 7; with_reducible exact K7 _ _))
  have g8 := Gr.grown w7 nq osq
  have G8 : Hid (Gr w (grow (w7.drewN nq) osq)) := G7.out.trans g8
  have HE8 := HE7.gr g8
  clear c6 c7 c8 l0 l1 l2 K6 K7 g8 G7 HE7 Ip Dlp
  generalize grow (w7.drewN nq) osq = w8 at *
  have H8 : Hid (Env on os ln ls mn ms tn ts b bl bm bt w8) := HE8
  obtain ⟨c6, c7, c8, l0, l1, l2, m0, m1, m2, t0, t1, t2⟩ := HE8
  go_wp2_with fail
  refine (Dlt w8 b c6 c7 c8).mono ?_
  rintro e w9 ⟨rfl, g9⟩
  have G9 : Hid (Gr w w9) := G8.out.trans g9
  have HE9 := H8.out.gr g9
  clear c6 c7 c8 l0 l1 l2 m0 m1 m2 t0 t1 t2 g9 G8 H8 Dlt
  have H9 : Hid (Env on os ln ls mn ms tn ts b bl bm bt w9) := HE9
  obtain ⟨c6, c7, c8, l0, l1, l2, m0, m1, m2, t0, t1, t2⟩ := HE9
  by_cases hA : t ≤ l
  · have bA : decide (t ≤ l) = true := by simp [hA]
    have hB : decide (l + p ≤ t) = false := by simp; omega
    have hv := F1.out hA
    subst hv
    by_cases h1 : l ≤ m
    · have b7 : decide (l ≤ m) = true := by simp [h1]
      by_cases h2 : m ≤ t
      · have b8 : decide (m ≤ t) = true := by simp [h2]
        by_cases h3 : m = 0
        · have b9 : (m == 0) = true := by simp [h3]
          clear h1 h2 h3
          go_wp2
          go_ret
          exact ⟨rfl, G9.out⟩
        · have b9 : (m == 0) = false := by simp [h3]
          have Dmt := HM.out h3
          have FH := hidMk (F3.out h1 h2)
          clear h1 h2 h3
          go_wp2_with fail
          refine (Dlm w9 b c6 c7 c8).mono ?_
          rintro e w10 ⟨rfl, g10⟩
          have G10 : Hid (Gr w w10) := G9.out.trans g10
          have HE10 := H9.out.gr g10
          clear c6 c7 c8 l0 l1 l2 m0 m1 m2 t0 t1 t2 g10 G9 H9 Dlm
          obtain ⟨c6, c7, c8, l0, l1, l2, m0, m1, m2, t0, t1, t2⟩ := HE10
          cases vlm
          · have FF := FH.out
            clear FH
            rw [Bool.false_or] at FF
            subst vmt
            go_wp2_with fail
            refine (Dmt w10 b c6 c7 c8).mono ?_
            rintro e w11 ⟨rfl, g11⟩
            have G11 : Hid (Gr w w11) := G10.out.trans g11
            clear g11
            go_wp2
            go_ret
            exact ⟨by simp, G11.out⟩
          · exact absurd FH.out (by simp)
      · have b8 : decide (m ≤ t) = false := by simp; omega
        clear h1 h2
        go_wp2
        go_ret
        exact ⟨rfl, G9.out⟩
    · have b7 : decide (l ≤ m) = false := by simp; omega
      clear h1
      go_wp2
      go_ret
      exact ⟨rfl, G9.out⟩
  · have bA : decide (t ≤ l) = false := by simp; omega
    by_cases hB0 : l + p ≤ t
    · have hB : decide (l + p ≤ t) = true := by simp [hB0]
      have hv := F2.out hB0
      subst hv
      by_cases h1 : l ≤ m
      · have b7 : decide (l ≤ m) = true := by simp [h1]
        by_cases h2 : m ≤ t
        · have b8 : decide (m ≤ t) = true := by simp [h2]
          by_cases h3 : m = 0
          · have b9 : (m == 0) = true := by simp [h3]
            clear h1 h2 h3
            go_wp2
            go_ret
            exact ⟨rfl, G9.out⟩
          · have b9 : (m == 0) = false := by simp [h3]
            have Dmt := HM.out h3
            have FH := hidMk (F3.out h1 h2)
            clear h1 h2 h3
            go_wp2_with fail
            refine (Dlm w9 b c6 c7 c8).mono ?_
            rintro e w10 ⟨rfl, g10⟩
            have G10 : Hid (Gr w w10) := G9.out.trans g10
            have HE10 := H9.out.gr g10
            clear c6 c7 c8 l0 l1 l2 m0 m1 m2 t0 t1 t2 g10 G9 H9 Dlm
            obtain ⟨c6, c7, c8, l0, l1, l2, m0, m1, m2, t0, t1, t2⟩ := HE10
            cases vlm
            · have FF := FH.out
              clear FH
              rw [Bool.false_or] at FF
              subst vmt
              go_wp2_with fail
              refine (Dmt w10 b c6 c7 c8).mono ?_
              rintro e w11 ⟨rfl, g11⟩
              have G11 : Hid (Gr w w11) := G10.out.trans g11
              clear g11
              go_wp2
              go_ret
              exact ⟨by simp, G11.out⟩
            · clear FH
              go_wp2
              go_ret
              exact ⟨by simp, G10.out⟩
        · have b8 : decide (m ≤ t) = false := by simp; omega
          clear h1 h2
          go_wp2
          go_ret
          exact ⟨rfl, G9.out⟩
      · have b7 : decide (l ≤ m) = false := by simp; omega
        clear h1
        go_wp2
        go_ret
        exact ⟨rfl, G9.out⟩
    · have hB : decide (l + p ≤ t) = false := by simp; omega
      by_cases h1 : l ≤ m
      · have b7 : decide (l ≤ m) = true := by simp [h1]
        by_cases h2 : m ≤ t
        · have b8 : decide (m ≤ t) = true := by simp [h2]
          by_cases h3 : m = 0
          · have b9 : (m == 0) = true := by simp [h3]
            clear h1 h2 h3
            go_wp2
            go_ret
            exact ⟨rfl, G9.out⟩
          · have b9 : (m == 0) = false := by simp [h3]
            have Dmt := HM.out h3
            have FH := hidMk (F3.out h1 h2)
            clear h1 h2 h3
            go_wp2_with fail
            refine (Dlm w9 b c6 c7 c8).mono ?_
            rintro e w10 ⟨rfl, g10⟩
            have G10 : Hid (Gr w w10) := G9.out.trans g10
            have HE10 := H9.out.gr g10
            clear c6 c7 c8 l0 l1 l2 m0 m1 m2 t0 t1 t2 g10 G9 H9 Dlm
            obtain ⟨c6, c7, c8, l0, l1, l2, m0, m1, m2, t0, t1, t2⟩ := HE10
            cases vlm
            · have FF := FH.out
              clear FH
              rw [Bool.false_or] at FF
              subst vlt
              go_wp2_with fail
              refine (Dmt w10 b c6 c7 c8).mono ?_
              rintro e w11 ⟨rfl, g11⟩
              have G11 : Hid (Gr w w11) := G10.out.trans g11
              clear g11
              go_wp2
              go_ret
              exact ⟨by simp, G11.out⟩
            · have FF := FH.out
              clear FH
              rw [Bool.true_or] at FF
              subst vlt
              go_wp2
              go_ret
              exact ⟨by simp, G10.out⟩
        · have b8 : decide (m ≤ t) = false := by simp; omega
          clear h1 h2
          go_wp2
          go_ret
          exact ⟨rfl, G9.out⟩
      · have b7 : decide (l ≤ m) = false := by simp; omega
        clear h1
        go_wp2
        go_ret
        exact ⟨rfl, G9.out⟩
end Go.Proofs.Qxb6615843a
