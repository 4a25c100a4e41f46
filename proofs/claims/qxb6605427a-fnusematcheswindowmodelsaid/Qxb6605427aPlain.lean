/-
  THE PLAIN LAWS OF SEAT b6605427a: numbers and bits alone, no Go in sight. The 1024 bits of the window as 16 words ('List Nat'); 'use' on them; what 'use' does, bit by bit.
-/
namespace Go.Proofs.Qxb6605427a.Plain

/-- The place of a number: its residue modulo 1024. -/
def pos (n : Int) : Nat := (n % 1024).toNat
theorem pos_lt (n : Int) : pos n < 1024 := by unfold pos; omega
theorem pos_near {x y : Int} (h : pos x = pos y) (h1 : x - y < 1024) (h2 : y - x < 1024) : x = y := by unfold pos at h; omega
theorem pos_far {x y : Int} (h1 : x < y) (h2 : y - x < 1024) : pos y ≠ pos x := fun h => by have := pos_near h (by omega) (by omega); omega

/-- Sixteen words of 64 bits. -/
structure Ok (bs : List Nat) : Prop where
  len : bs.length = 16
  lt : ∀ z ∈ bs, z < 18446744073709551616

theorem Ok.at {bs : List Nat} (h : Ok bs) (k : Nat) : bs.getD k 0 < 18446744073709551616 := by
  by_cases hk : k < bs.length
  · rw [List.getD, List.getElem?_eq_getElem hk]; exact h.lt _ (List.getElem_mem hk)
  · rw [List.getD, List.getElem?_eq_none (by omega)]; decide

def tst (bs : List Nat) (p : Nat) : Bool := (bs.getD (p / 64) 0).testBit (p % 64)
def setB (bs : List Nat) (p : Nat) : List Nat := bs.set (p / 64) (bs.getD (p / 64) 0 ||| 2 ^ (p % 64))
def clrB (bs : List Nat) (p : Nat) : List Nat := bs.set (p / 64) (bs.getD (p / 64) 0 &&& (18446744073709551615 - 2 ^ (p % 64)))
def zeros : List Nat := List.replicate 16 0

theorem pow_lt (p : Nat) : 2 ^ (p % 64) < 18446744073709551616 := by
  have h : p % 64 < 64 := Nat.mod_lt _ (by decide)
  calc 2 ^ (p % 64) < 2 ^ 64 := Nat.pow_lt_pow_right (by decide) h
    _ = 18446744073709551616 := by decide

theorem ok_zeros : Ok zeros := ⟨by simp [zeros], fun z hz => by simp [zeros] at hz; omega⟩

theorem mem_set_lt {bs : List Nat} (h : ∀ z ∈ bs, z < 18446744073709551616) (k v : Nat) (hv : v < 18446744073709551616) : ∀ z ∈ bs.set k v, z < 18446744073709551616 := fun z hz => by
  rcases List.mem_or_eq_of_mem_set hz with h1 | h1
  · exact h z h1
  · omega

theorem or_lt {a b : Nat} (ha : a < 18446744073709551616) (hb : b < 18446744073709551616) : a ||| b < 18446744073709551616 := Nat.or_lt_two_pow (n := 64) ha hb
theorem and_lt {a b : Nat} (ha : a < 18446744073709551616) : a &&& b < 18446744073709551616 := Nat.lt_of_le_of_lt Nat.and_le_left ha

theorem Ok.setB {bs : List Nat} (h : Ok bs) (p : Nat) : Ok (setB bs p) := ⟨by simp [Plain.setB, h.len], mem_set_lt h.lt _ _ (or_lt (h.at _) (pow_lt p))⟩
theorem Ok.clrB {bs : List Nat} (h : Ok bs) (p : Nat) : Ok (clrB bs p) := ⟨by simp [Plain.clrB, h.len], mem_set_lt h.lt _ _ (and_lt (h.at _))⟩

theorem tst_zeros (p : Nat) : tst zeros p = false := by
  unfold tst zeros
  have e : (List.replicate 16 0 : List Nat).getD (p / 64) 0 = 0 := by
    rw [List.getD, List.getElem?_replicate]
    split <;> rfl
  rw [e]; simp

theorem getD_set {bs : List Nat} {k v : Nat} (hk : k < bs.length) (j : Nat) : (bs.set k v).getD j 0 = if j = k then v else bs.getD j 0 := by
  rw [List.getD, List.getElem?_set]
  by_cases e : j = k
  · subst e; simp [hk]
  · have : ¬ k = j := fun h => e h.symm
    simp [e, this]

theorem bit_mask (i : Nat) (hi : i < 64) (j : Nat) (hj : j < 64) : (18446744073709551615 - 2 ^ i).testBit j = decide (j ≠ i) := by
  have e : (18446744073709551615 : Nat) - 2 ^ i = 2 ^ 64 - (2 ^ i + 1) := by
    have : (2 : Nat) ^ 64 = 18446744073709551616 := by decide
    omega
  rw [e, Nat.testBit_two_pow_sub_succ (Nat.pow_lt_pow_right (by decide) hi)]
  simp [Nat.testBit_two_pow, hj, eq_comm]

theorem tst_setB {bs : List Nat} (h : Ok bs) (p q : Nat) (hp : p < 1024) : tst (setB bs p) q = (decide (q = p) || tst bs q) := by
  unfold tst setB
  have hk : p / 64 < bs.length := by rw [h.len]; omega
  rw [getD_set hk]
  by_cases e : q / 64 = p / 64
  · rw [if_pos e, Nat.testBit_or, Nat.testBit_two_pow, ← e]
    have : decide (p % 64 = q % 64) = decide (q = p) := by
      apply decide_eq_decide.2
      omega
    rw [this, Bool.or_comm]
  · rw [if_neg e]
    have : decide (q = p) = false := decide_eq_false (by intro h; subst h; exact e rfl)
    rw [this, Bool.false_or]

theorem tst_clrB {bs : List Nat} (h : Ok bs) (p q : Nat) (hp : p < 1024) : tst (clrB bs p) q = (decide (q ≠ p) && tst bs q) := by
  unfold tst clrB
  have hk : p / 64 < bs.length := by rw [h.len]; omega
  rw [getD_set hk]
  by_cases e : q / 64 = p / 64
  · rw [if_pos e, Nat.testBit_and, bit_mask _ (Nat.mod_lt _ (by decide)) _ (Nat.mod_lt _ (by decide)), ← e]
    have : decide (q % 64 ≠ p % 64) = decide (q ≠ p) := by
      apply decide_eq_decide.2
      omega
    rw [this, Bool.and_comm]
  · rw [if_neg e]
    have : decide (q ≠ p) = true := decide_eq_true (by intro h; subst h; exact e rfl)
    rw [this, Bool.true_and]

/-- TWO WINDOWS OF THE SAME BITS ARE ONE. -/
theorem ext {bs cs : List Nat} (hb : Ok bs) (hc : Ok cs) (h : ∀ q, q < 1024 → tst bs q = tst cs q) : bs = cs := by
  apply List.ext_getElem (by rw [hb.len, hc.len])
  intro k h1 h2
  apply Nat.eq_of_testBit_eq
  intro i
  have hk : k < 16 := by rw [hb.len] at h1; exact h1
  by_cases hi : i < 64
  · have := h (k * 64 + i) (by omega)
    unfold tst at this
    have e1 : (k * 64 + i) / 64 = k := by omega
    have e2 : (k * 64 + i) % 64 = i := by omega
    rw [e1, e2] at this
    simpa [List.getD, List.getElem?_eq_getElem h1, List.getElem?_eq_getElem h2] using this
  · have big : ∀ z : Nat, z < 18446744073709551616 → z.testBit i = false := fun z hz =>
      Nat.testBit_lt_two_pow (Nat.lt_of_lt_of_le hz (by
        calc (18446744073709551616 : Nat) = 2 ^ 64 := by decide
          _ ≤ 2 ^ i := Nat.pow_le_pow_right (by decide) (by omega)))
    rw [big _ (hb.lt _ (List.getElem_mem h1)), big _ (hc.lt _ (List.getElem_mem h2))]

/-- The places of the k numbers behind h are freed. -/
def clrTo (bs : List Nat) (h : Int) : Nat → List Nat
  | 0 => bs
  | k + 1 => clrB (clrTo bs h k) (pos (h + 1 + k))

theorem Ok.clrTo {bs : List Nat} (h : Ok bs) (n : Int) : ∀ k, Ok (clrTo bs n k)
  | 0 => h
  | k + 1 => (Ok.clrTo h n k).clrB _

theorem tst_clrTo {bs : List Nat} (hb : Ok bs) (h : Int) (q : Nat) : ∀ k, tst (clrTo bs h k) q = true ↔ (tst bs q = true ∧ ∀ m : Int, h < m → m < h + 1 + k → pos m ≠ q)
  | 0 => by
    constructor
    · intro h1; exact ⟨h1, fun m h2 h3 => by omega⟩
    · exact fun h1 => h1.1
  | k + 1 => by
    show tst (clrB (clrTo bs h k) (pos (h + 1 + k))) q = true ↔ _
    rw [tst_clrB (hb.clrTo h k) _ _ (pos_lt _), Bool.and_eq_true, tst_clrTo hb h q k, decide_eq_true_eq]
    constructor
    · rintro ⟨h1, h2, h3⟩
      refine ⟨h2, fun m h4 h5 => ?_⟩
      by_cases e : m = h + 1 + k
      · subst e; exact fun e2 => h1 e2.symm
      · exact h3 m h4 (by omega)
    · rintro ⟨h1, h2⟩
      exact ⟨fun e => h2 (h + 1 + k) (by omega) (by omega) e.symm, h1, fun m h4 h5 => h2 m h4 (by omega)⟩

/-- IS n NEW? -/
def isNew (h : Int) (bs : List Nat) (n : Int) : Bool := decide (0 < n) && (decide (h - 1024 < n) && (decide (h < n) || !tst bs (pos n)))

/-- The window once n has been taken. -/
def took (h : Int) (bs : List Nat) (n : Int) : List Nat := setB (if h < n then (if 1024 ≤ n - h then zeros else clrTo bs h (n - h - 1).toNat) else bs) (pos n)

theorem ok_took {bs : List Nat} (hb : Ok bs) (h n : Int) : Ok (took h bs n) := by
  unfold took
  apply Ok.setB
  split
  · split
    · exact ok_zeros
    · exact hb.clrTo _ _
  · exact hb

/-- WHAT TAKING n DOES, BIT BY BIT. -/
theorem tst_took {bs : List Nat} (hb : Ok bs) (h n : Int) (q : Nat) (hq : q < 1024) : tst (took h bs n) q = true ↔ (q = pos n ∨ (tst bs q = true ∧ ∀ m : Int, h < m → m < n → pos m ≠ q)) := by
  unfold took
  by_cases c1 : h < n
  · rw [if_pos c1]
    by_cases c2 : 1024 ≤ n - h
    · rw [if_pos c2, tst_setB ok_zeros _ _ (pos_lt _), tst_zeros, Bool.or_false, decide_eq_true_eq]
      constructor
      · exact .inl
      · rintro (h1 | ⟨_, h2⟩)
        · exact h1
        · apply Classical.byContradiction
          intro hne
          have e : pos (n - (n - q) % 1024) = q := by unfold pos; omega
          refine h2 (n - (n - q) % 1024) (by omega) ?_ e
          have : (n - q) % 1024 ≠ 0 := by
            intro e0
            apply hne
            unfold pos
            omega
          omega
    · rw [if_neg c2, tst_setB (hb.clrTo _ _) _ _ (pos_lt _), Bool.or_eq_true, decide_eq_true_eq, tst_clrTo hb]
      have e : h + 1 + ((n - h - 1).toNat : Int) = n := by omega
      rw [e]
  · rw [if_neg c1, tst_setB hb _ _ (pos_lt _), Bool.or_eq_true, decide_eq_true_eq]
    constructor
    · rintro (h1 | h1)
      · exact .inl h1
      · exact .inr ⟨h1, fun m h2 h3 => by omega⟩
    · rintro (h1 | h1)
      · exact .inl h1
      · exact .inr h1.1

/-- (*usedNumbers).use. -/
def newH (h : Int) (bs : List Nat) (n : Int) : Int := if isNew h bs n then (if h < n then n else h) else h
def newB (h : Int) (bs : List Nat) (n : Int) : List Nat := if isNew h bs n then took h bs n else bs

theorem ok_new {bs : List Nat} (hb : Ok bs) (h n : Int) : Ok (newB h bs n) := by
  unfold newB
  split
  · exact ok_took hb h n
  · exact hb

end Go.Proofs.Qxb6605427a.Plain
