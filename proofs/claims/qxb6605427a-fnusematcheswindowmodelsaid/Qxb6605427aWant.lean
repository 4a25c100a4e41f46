/-
  SEAT b6605427a: THE PLAIN LAW OF FnUseMatchesWindowModel: the window that is rebuilt number by number is the one that use leaves.
-/
import Derived.Test.Qxb6605427aSwap
namespace Go.Proofs.Qxb6605427a.Plain
set_option linter.unusedVariables false

/-- IS THE NUMBER y MARKED once n has been taken? -/
def On (h : Int) (bs : List Nat) (n y : Int) : Prop := y = n ∨ (y ≤ h ∧ h - 1024 < y ∧ tst bs (pos y) = true)

/-- The window cs, of the numbers from lo on and below x, holds those that are marked. -/
structure Built (h : Int) (bs : List Nat) (n lo x : Int) (cs : List Nat) : Prop where
  ok : Ok cs
  bits : ∀ q, q < 1024 → (tst cs q = true ↔ ∃ y : Int, lo ≤ y ∧ y < x ∧ pos y = q ∧ On h bs n y)

theorem built_start (h : Int) (bs : List Nat) (n lo : Int) : Built h bs n lo lo zeros := ⟨ok_zeros, fun q _ => by
  rw [tst_zeros]
  constructor
  · intro e; cases e
  · rintro ⟨y, h1, h2, _⟩; omega⟩

theorem Built.off {h : Int} {bs : List Nat} {n lo x : Int} {cs : List Nat} (B : Built h bs n lo x cs) (hx : ¬ On h bs n x) : Built h bs n lo (x + 1) cs := ⟨B.ok, fun q hq => by
  rw [B.bits q hq]
  constructor
  · rintro ⟨y, h1, h2, h3, h4⟩; exact ⟨y, h1, by omega, h3, h4⟩
  · rintro ⟨y, h1, h2, h3, h4⟩
    have : y ≠ x := fun e => hx (e ▸ h4)
    exact ⟨y, h1, by omega, h3, h4⟩⟩

theorem Built.on {h : Int} {bs : List Nat} {n lo x : Int} {cs : List Nat} (B : Built h bs n lo x cs) (hlo : lo ≤ x) (hx : On h bs n x) : Built h bs n lo (x + 1) (setB cs (pos x)) := ⟨B.ok.setB _, fun q hq => by
  rw [tst_setB B.ok _ _ (pos_lt x), Bool.or_eq_true, decide_eq_true_eq, B.bits q hq]
  constructor
  · rintro (h1 | ⟨y, h1, h2, h3, h4⟩)
    · exact ⟨x, hlo, by omega, h1.symm, hx⟩
    · exact ⟨y, h1, by omega, h3, h4⟩
  · rintro ⟨y, h1, h2, h3, h4⟩
    by_cases e : y = x
    · subst e; exact .inl h3.symm
    · exact .inr ⟨y, h1, by omega, h3, h4⟩⟩

/-- IT IS THE WINDOW THAT use LEAVES. -/
theorem built_end {h : Int} {bs : List Nat} {n N : Int} {cs : List Nat} (hb : Ok bs) (e : isNew h bs n = true) (hN : N = if h < n then n else h) (B : Built h bs n (N - 1023) (N + 1) cs) : cs = newB h bs n := by
  obtain ⟨n1, n2, n3⟩ := (isNew_iff _ _ _).1 e
  have hNh : h ≤ N ∧ n ≤ N ∧ (h < N → N = n) := by
    rw [hN]
    split <;> omega
  apply ext B.ok (ok_new hb h n)
  intro q hq
  rw [Bool.eq_iff_iff, B.bits q hq, tst_new hb e q hq]
  constructor
  · rintro ⟨y, y1, y2, rfl, y4⟩
    rcases y4 with rfl | ⟨y4, y5, y6⟩
    · exact .inl rfl
    · exact .inr ⟨y6, fun m m1 m2 => pos_far (by omega) (by omega)⟩
  · rintro (rfl | ⟨g1, g2⟩)
    · exact ⟨n, by omega, by omega, rfl, .inl rfl⟩
    · by_cases c : q = pos n
      · subst c; exact ⟨n, by omega, by omega, rfl, .inl rfl⟩
      · have e1 : pos (N - (N - q) % 1024) = q := by unfold pos; omega
        have hle : N - (N - q) % 1024 ≤ h := by
          apply Classical.byContradiction
          intro hc
          have hNn := hNh.2.2 (by omega)
          by_cases c2 : N - (N - q) % 1024 = n
          · rw [c2] at e1; exact c e1.symm
          · exact g2 (N - (N - q) % 1024) (by omega) (by omega) e1
        exact ⟨N - (N - q) % 1024, by omega, by omega, e1, .inr ⟨hle, by omega, by rw [e1]; exact g1⟩⟩

end Go.Proofs.Qxb6605427a.Plain
