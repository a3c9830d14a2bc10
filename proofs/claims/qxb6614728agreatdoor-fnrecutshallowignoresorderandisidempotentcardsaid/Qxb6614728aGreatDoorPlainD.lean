import Derived.Test.Qxb6614728aGreatDoorPlainC
/-! Plain lists: the least depth that a list gives a pair, as the law reckons it. -/
namespace Go.Proofs.Qxb6614728aGreatDoor

def lstep (x : F3) (o : Option Int) (f : F3) : Option Int :=
  if sameP f x then some (match o with | none => f.2.2 | some l => if f.2.2 < l then f.2.2 else l) else o
def lst (x : F3) (L : List F3) : Option Int := L.foldl (lstep x) none
theorem lst_succ (x : F3) (fs : List F3) (k : Nat) (h : k < fs.length) : lst x (fs.take (k + 1)) = lstep x (lst x (fs.take k)) fs[k] := by
  unfold lst; rw [List.take_succ_eq_append_getElem h, List.foldl_append]; rfl
theorem lstep_no {x : F3} {o : Option Int} {f : F3} (h : sameP f x = false) : lstep x o f = o := by simp [lstep, h]
theorem lstep_none {x f : F3} (h : sameP f x = true) : lstep x none f = some f.2.2 := by simp [lstep, h]
theorem lstep_lt {x f : F3} {l : Int} (h : sameP f x = true) (hl : f.2.2 < l) : lstep x (some l) f = some f.2.2 := by simp [lstep, h, hl]
theorem lstep_ge {x f : F3} {l : Int} (h : sameP f x = true) (hl : ¬ f.2.2 < l) : lstep x (some l) f = some l := by simp [lstep, h, hl]
theorem lst_spec (x : F3) (L : List F3) (o : Option Int) (M : List F3)
    (h : match o with | none => ∀ f ∈ M, sameP f x = false | some l => (∃ f ∈ M, sameP f x = true ∧ f.2.2 = l) ∧ ∀ f ∈ M, sameP f x = true → l ≤ f.2.2) :
    match L.foldl (lstep x) o with | none => ∀ f ∈ M ++ L, sameP f x = false | some l => (∃ f ∈ M ++ L, sameP f x = true ∧ f.2.2 = l) ∧ ∀ f ∈ M ++ L, sameP f x = true → l ≤ f.2.2 := by
  induction L generalizing o M with
  | nil => simpa using h
  | cons a t ih =>
    have := ih (lstep x o a) (M ++ [a]) ?_
    · simpa using this
    · cases hs : sameP a x
      · rw [lstep_no hs]
        cases o with
        | none =>
          intro f hf
          rcases List.mem_append.1 hf with e | e
          · exact h f e
          · simp at e; rw [e]; exact hs
        | some l =>
          refine ⟨?_, fun f hf hfx => ?_⟩
          · obtain ⟨f, hf, r⟩ := h.1
            exact ⟨f, List.mem_append_left _ hf, r⟩
          · rcases List.mem_append.1 hf with e | e
            · exact h.2 f e hfx
            · simp at e; rw [e, hs] at hfx; cases hfx
      · cases o with
        | none =>
          rw [lstep_none hs]
          refine ⟨⟨a, by simp, hs, rfl⟩, fun f hf hfx => ?_⟩
          rcases List.mem_append.1 hf with e | e
          · rw [h f e] at hfx; cases hfx
          · simp at e; rw [e]; exact Int.le_refl _
        | some l =>
          by_cases hl : a.2.2 < l
          · rw [lstep_lt hs hl]
            refine ⟨⟨a, by simp, hs, rfl⟩, fun f hf hfx => ?_⟩
            rcases List.mem_append.1 hf with e | e
            · have := h.2 f e hfx; omega
            · simp at e; rw [e]; exact Int.le_refl _
          · rw [lstep_ge hs hl]
            refine ⟨?_, fun f hf hfx => ?_⟩
            · obtain ⟨f, hf, r⟩ := h.1
              exact ⟨f, List.mem_append_left _ hf, r⟩
            · rcases List.mem_append.1 hf with e | e
              · exact h.2 f e hfx
              · simp at e; rw [e]; omega
theorem lst_out (fs : List F3) (x : F3) (h : x ∈ outF fs) : lst x fs = some x.2.2 := by
  have hs := lst_spec x fs none [] (by simp)
  have hx := outF_mem fs x h
  have hxx : sameP x x = true := by rw [same_iff]; exact ⟨rfl, rfl⟩
  unfold lst
  cases ho : fs.foldl (lstep x) none with
  | none =>
    rw [ho] at hs
    have := hs x (by simpa using hx)
    rw [hxx] at this; cases this
  | some l =>
    rw [ho] at hs
    obtain ⟨⟨f, hf, hfx, hfl⟩, hle⟩ := hs
    have a := outF_least fs x f h (by simpa using hf) hfx
    have b := hle x (by simpa using hx) hxx
    congr 1
    omega
end Go.Proofs.Qxb6614728aGreatDoor
