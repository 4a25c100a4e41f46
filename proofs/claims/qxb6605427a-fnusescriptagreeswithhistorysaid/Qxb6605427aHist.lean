/-
  SEAT b6605427a: THE PLAIN LAW OF FnUseScriptAgreesWithHistory: the window remembers just what was accepted.
-/
import Derived.Test.Qxb6605427aSwap
namespace Go.Proofs.Qxb6605427a.Plain
set_option linter.unusedVariables false

/-- THE STATE (h, bs) AND THE NUMBERS ACCEPTED SO FAR AGREE. -/
structure Inv (h : Int) (bs : List Nat) (acc : List Int) : Prop where
  ok : Ok bs
  low : 0 ≤ h
  high : h ≤ 2147483647
  within : ∀ x ∈ acc, 1 ≤ x ∧ x ≤ h
  bits : ∀ x : Int, 1 ≤ x → x ≤ h → h - 1024 < x → (tst bs (pos x) = true ↔ x ∈ acc)

theorem inv_start : Inv 0 zeros [] := ⟨ok_zeros, by omega, by omega, fun x h => by simp at h, fun x h1 h2 => by omega⟩

theorem isNew_low {h : Int} {bs : List Nat} {x : Int} (hx : x < 1 ∨ x ≤ h - 1024) : isNew h bs x = false := by
  cases e : isNew h bs x
  · rfl
  · have := (isNew_iff _ _ _).1 e; omega

theorem isNew_old {h : Int} {bs : List Nat} {acc : List Int} (I : Inv h bs acc) {x : Int} (h1 : 1 ≤ x) (h2 : h - 1024 < x) (hx : x ∈ acc) : isNew h bs x = false := by
  cases e : isNew h bs x
  · rfl
  · obtain ⟨_, _, g⟩ := (isNew_iff _ _ _).1 e
    have hw := I.within x hx
    rcases g with g | g
    · omega
    · rw [(I.bits x h1 hw.2 h2).2 hx] at g; cases g

theorem isNew_yes {h : Int} {bs : List Nat} {acc : List Int} (I : Inv h bs acc) {x : Int} (h1 : 1 ≤ x) (h2 : h - 1024 < x) (hx : ¬ x ∈ acc) : isNew h bs x = true := by
  refine (isNew_iff _ _ _).2 ⟨by omega, h2, ?_⟩
  by_cases c : h < x
  · exact .inl c
  · right
    cases ht : tst bs (pos x)
    · rfl
    · exact absurd ((I.bits x h1 (by omega) h2).1 ht) hx

theorem inv_step {h : Int} {bs : List Nat} {acc : List Int} (I : Inv h bs acc) {x : Int} (h1 : 1 ≤ x) (h2 : h - 1024 < x) (h3 : x ≤ 2147483647) (hx : ¬ x ∈ acc) : Inv (newH h bs x) (newB h bs x) (acc ++ [x]) := by
  have e := isNew_yes I h1 h2 hx
  have eH := (new_yes e).1
  have b := newH_bounds h bs x I.low I.high h3
  refine ⟨ok_new I.ok h x, b.1, b.2, ?_, ?_⟩
  · intro y hy
    rw [eH]
    rcases List.mem_append.1 hy with hy | hy
    · have := I.within y hy
      split <;> omega
    · simp at hy
      subst hy
      split <;> omega
  · intro y y1 y2 y3
    rw [eH] at y2 y3
    rw [tst_new I.ok e (pos y) (pos_lt y), List.mem_append, List.mem_singleton]
    by_cases c : h < x
    · rw [if_pos c] at y2 y3
      constructor
      · rintro (g | ⟨g1, g2⟩)
        · exact .inr (pos_near g (by omega) (by omega))
        · by_cases cy : y ≤ h
          · exact .inl ((I.bits y y1 cy (by omega)).1 g1)
          · by_cases cx : y = x
            · exact .inr cx
            · exact absurd rfl (g2 y (by omega) (by omega))
      · rintro (g | g)
        · have hw := I.within y g
          exact .inr ⟨(I.bits y y1 hw.2 (by omega)).2 g, fun m m1 m2 => pos_far (by omega) (by omega)⟩
        · exact .inl (by rw [g])
    · rw [if_neg c] at y2 y3
      constructor
      · rintro (g | ⟨g1, _⟩)
        · exact .inr (pos_near g (by omega) (by omega))
        · exact .inl ((I.bits y y1 y2 y3).1 g1)
      · rintro (g | g)
        · exact .inr ⟨(I.bits y y1 y2 y3).2 g, fun m m1 m2 => by omega⟩
        · exact .inl (by rw [g])

end Go.Proofs.Qxb6605427a.Plain
