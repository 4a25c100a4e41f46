/-
  SEAT b6605427a: THE PLAIN LAW OF FnUseTwoNumbersCommute: two different numbers less than 1024 apart, used in either order.
-/
import Derived.Test.Qxb6605427aPlain
namespace Go.Proofs.Qxb6605427a.Plain
set_option linter.unusedVariables false

theorem isNew_iff (h : Int) (bs : List Nat) (n : Int) : isNew h bs n = true ↔ 0 < n ∧ h - 1024 < n ∧ (h < n ∨ tst bs (pos n) = false) := by
  unfold isNew
  simp only [Bool.and_eq_true, Bool.or_eq_true, decide_eq_true_eq, Bool.not_eq_true']

theorem new_no {h : Int} {bs : List Nat} {n : Int} (e : isNew h bs n = false) : newH h bs n = h ∧ newB h bs n = bs := by
  unfold newH newB
  rw [e]
  exact ⟨rfl, rfl⟩

theorem new_yes {h : Int} {bs : List Nat} {n : Int} (e : isNew h bs n = true) : newH h bs n = (if h < n then n else h) ∧ newB h bs n = took h bs n := by
  unfold newH newB
  rw [e]
  exact ⟨rfl, rfl⟩

theorem tst_new {h : Int} {bs : List Nat} {n : Int} (hb : Ok bs) (e : isNew h bs n = true) (q : Nat) (hq : q < 1024) :
    tst (newB h bs n) q = true ↔ (q = pos n ∨ (tst bs q = true ∧ ∀ m : Int, h < m → m < n → pos m ≠ q)) := by
  rw [(new_yes e).2]
  exact tst_took hb h n q hq

/-- A number that has been used is no longer new. -/
theorem taken {bs : List Nat} (hb : Ok bs) (h n : Int) : isNew (newH h bs n) (newB h bs n) n = false := by
  cases e : isNew h bs n
  · rw [(new_no e).1, (new_no e).2]; exact e
  · cases e2 : isNew (newH h bs n) (newB h bs n) n
    · rfl
    · exfalso
      obtain ⟨_, _, h3⟩ := (isNew_iff _ _ _).1 e2
      have ht := (tst_new hb e (pos n) (pos_lt n)).2 (.inl rfl)
      rw [(new_yes e).1] at h3
      rcases h3 with h3 | h3
      · split at h3 <;> omega
      · rw [ht] at h3; cases h3

/-- THE OTHER NUMBER STAYS AS NEW AS IT WAS. -/
theorem still_new {bs : List Nat} (hb : Ok bs) (h a b : Int) (h0 : 0 ≤ h) (hne : a ≠ b) (d1 : a - b < 1024) (d2 : b - a < 1024) : isNew (newH h bs b) (newB h bs b) a = isNew h bs a := by
  cases e : isNew h bs b
  · rw [(new_no e).1, (new_no e).2]
  · rw [Bool.eq_iff_iff, isNew_iff, isNew_iff, (new_yes e).1]
    have hab : pos a ≠ pos b := fun e => hne (pos_near e (by omega) (by omega))
    have hT := tst_new hb e (pos a) (pos_lt a)
    -- the bit at a's place, where a lies in the old window
    by_cases c : h < a
    · -- a lies above the highest
      constructor
      · rintro ⟨g1, g2, _⟩
        exact ⟨g1, by omega, .inl c⟩
      · rintro ⟨g1, g2, _⟩
        refine ⟨g1, by split <;> omega, ?_⟩
        by_cases c2 : b < a
        · left; split <;> omega
        · right
          cases ht : tst (newB h bs b) (pos a)
          · rfl
          · exfalso
            rcases hT.1 ht with h1 | ⟨_, h2⟩
            · exact hab h1
            · exact h2 a c (by omega) rfl
    · -- a lies at or below it
      have hTa : h - 1024 < a → (tst (newB h bs b) (pos a) = true ↔ tst bs (pos a) = true) := fun hw => by
        rw [hT]
        constructor
        · rintro (h1 | h1)
          · exact absurd h1 hab
          · exact h1.1
        · intro h1
          exact .inr ⟨h1, fun m m1 m2 => pos_far (by omega) (by omega)⟩
      constructor
      · rintro ⟨g1, g2, g3⟩
        have hw : h - 1024 < a := by split at g2 <;> omega
        refine ⟨g1, hw, .inr ?_⟩
        rcases g3 with g3 | g3
        · exfalso; split at g3 <;> omega
        · cases ht : tst bs (pos a)
          · rfl
          · rw [(hTa hw).2 ht] at g3; cases g3
      · rintro ⟨g1, g2, g3⟩
        refine ⟨g1, by split <;> omega, .inr ?_⟩
        rcases g3 with g3 | g3
        · exact absurd g3 c
        · cases ht : tst (newB h bs b) (pos a)
          · rfl
          · rw [(hTa g2).1 ht] at g3; cases g3

/-- Both new: what the window holds in the end does not hang on the order. -/
theorem both_bits {bs : List Nat} (hb : Ok bs) (h a b : Int) (hne : a ≠ b) (d1 : a - b < 1024) (d2 : b - a < 1024) (ea : isNew h bs a = true) (eb : isNew (newH h bs a) (newB h bs a) b = true) (q : Nat) (hq : q < 1024) :
    tst (newB (newH h bs a) (newB h bs a) b) q = true ↔ (q = pos a ∨ q = pos b ∨ (tst bs q = true ∧ ∀ m : Int, h < m → (m < a ∨ m < b) → m ≠ a → m ≠ b → pos m ≠ q)) := by
  rw [tst_new (ok_new hb h a) eb q hq, tst_new hb ea q hq, (new_yes ea).1]
  constructor
  · rintro (h1 | ⟨h1 | ⟨h1, h2⟩, h3⟩)
    · exact .inr (.inl h1)
    · exact .inl h1
    · refine .inr (.inr ⟨h1, fun m m1 m2 m3 m4 => ?_⟩)
      by_cases c : m < a
      · exact h2 m m1 c
      · exact h3 m (by split <;> omega) (by omega)
  · rintro (h1 | h1 | ⟨h1, h2⟩)
    · right
      refine ⟨.inl h1, fun m m1 m2 => ?_⟩
      rw [h1]
      refine pos_far ?_ (by omega)
      split at m1 <;> omega
    · exact .inl h1
    · by_cases c : q = pos b
      · exact .inl c
      · by_cases c2 : q = pos a
        · right
          refine ⟨.inl c2, fun m m1 m2 => ?_⟩
          rw [c2]
          refine pos_far ?_ (by omega)
          split at m1 <;> omega
        · right
          refine ⟨.inr ⟨h1, fun m m1 m2 => ?_⟩, fun m m1 m2 => ?_⟩
          · by_cases cb : m = b
            · subst cb; exact fun e => c e.symm
            · exact h2 m m1 (.inl m2) (by omega) cb
          · have m3 : h < m ∧ a < m := by split at m1 <;> omega
            exact h2 m m3.1 (.inr m2) (by omega) (by omega)

/-- THE LAW. -/
theorem commute {bs : List Nat} (hb : Ok bs) (h a b : Int) (h0 : 0 ≤ h) (hne : a ≠ b) (d1 : a - b < 1024) (d2 : b - a < 1024) :
    newH (newH h bs a) (newB h bs a) b = newH (newH h bs b) (newB h bs b) a ∧ newB (newH h bs a) (newB h bs a) b = newB (newH h bs b) (newB h bs b) a := by
  have s1 := still_new hb h a b h0 hne d1 d2
  have s2 := still_new hb h b a h0 (fun e => hne e.symm) d2 d1
  cases ea : isNew h bs a
  · have n1 := new_no ea
    rw [ea] at s1
    have n2 := new_no s1
    rw [n2.1, n2.2, n1.1, n1.2]
    exact ⟨rfl, rfl⟩
  · cases eb : isNew h bs b
    · have n1 := new_no eb
      rw [eb] at s2
      have n2 := new_no s2
      rw [n2.1, n2.2, n1.1, n1.2]
      exact ⟨rfl, rfl⟩
    · rw [ea] at s1
      rw [eb] at s2
      refine ⟨?_, ?_⟩
      · rw [(new_yes s1).1, (new_yes s2).1, (new_yes ea).1, (new_yes eb).1]
        (repeat' split) <;> omega
      · apply ext (ok_new (ok_new hb _ _) _ _) (ok_new (ok_new hb _ _) _ _)
        intro q hq
        rw [Bool.eq_iff_iff, both_bits hb h a b hne d1 d2 ea s2 q hq, both_bits hb h b a (fun e => hne e.symm) d2 d1 eb s1 q hq]
        constructor
        · rintro (h1 | h1 | ⟨h1, h2⟩)
          · exact .inr (.inl h1)
          · exact .inl h1
          · exact .inr (.inr ⟨h1, fun m m1 m2 m3 m4 => h2 m m1 m2.symm m4 m3⟩)
        · rintro (h1 | h1 | ⟨h1, h2⟩)
          · exact .inr (.inl h1)
          · exact .inl h1
          · exact .inr (.inr ⟨h1, fun m m1 m2 m3 m4 => h2 m m1 m2.symm m4 m3⟩)

theorem newH_bounds (h : Int) (bs : List Nat) (n : Int) (h0 : 0 ≤ h) (h1 : h ≤ 2147483647) (n1 : n ≤ 2147483647) : 0 ≤ newH h bs n ∧ newH h bs n ≤ 2147483647 := by
  unfold newH
  split
  · split <;> omega
  · omega

theorem new_above {bs : List Nat} (h n : Int) (h0 : 0 ≤ h) (hn : h < n) : isNew h bs n = true := (isNew_iff _ _ _).2 ⟨by omega, by omega, .inl hn⟩

end Go.Proofs.Qxb6605427a.Plain
