/-
  THE PLAIN LAWS OF SEAT b6605420a: lists alone, no Go in sight. 'ded l': the values of l, each once, in the order of their first places.
-/
namespace Go.Proofs.Qxb6605420a.Plain

variable {α : Type} [DecidableEq α]

theorem snoc_ind {β : Type} {P : List β → Prop} (h0 : P []) (hs : ∀ l x, P l → P (l ++ [x])) (l : List β) : P l := by
  have key : ∀ r : List β, P r.reverse := by
    intro r
    induction r with
    | nil => exact h0
    | cons a t ih => rw [List.reverse_cons]; exact hs _ _ ih
  have := key l.reverse
  rwa [List.reverse_reverse] at this

def add (acc : List α) (x : α) : List α := if acc.contains x then acc else acc ++ [x]
def ded (l : List α) : List α := l.foldl add []

theorem ded_nil : ded ([] : List α) = [] := rfl
theorem ded_snoc (l : List α) (x : α) : ded (l ++ [x]) = add (ded l) x := by
  unfold ded; rw [List.foldl_append]; rfl

theorem mem_add (acc : List α) (x y : α) : y ∈ add acc x ↔ y ∈ acc ∨ y = x := by
  unfold add
  split
  · rename_i h
    have hx : x ∈ acc := by simpa using h
    constructor
    · exact Or.inl
    · rintro (h | rfl)
      · exact h
      · exact hx
  · simp

theorem mem_ded (l : List α) (y : α) : y ∈ ded l ↔ y ∈ l := by
  induction l using snoc_ind with
  | h0 => simp [ded]
  | hs l x ih => rw [ded_snoc, mem_add, ih]; simp

theorem ded_snoc_old (l : List α) (x : α) (h : x ∈ l) : ded (l ++ [x]) = ded l := by
  rw [ded_snoc]; unfold add; rw [if_pos (by simpa using (mem_ded l x).2 h)]
theorem ded_snoc_new (l : List α) (x : α) (h : ¬ x ∈ l) : ded (l ++ [x]) = ded l ++ [x] := by
  rw [ded_snoc]; unfold add; rw [if_neg (by simpa using fun e => h ((mem_ded l x).1 e))]

theorem ded_length_le (l : List α) : (ded l).length ≤ l.length := by
  induction l using snoc_ind with
  | h0 => simp [ded]
  | hs l x ih =>
    by_cases h : x ∈ l
    · rw [ded_snoc_old l x h]; simp; omega
    · rw [ded_snoc_new l x h]; simp; omega

theorem ded_eq_nil (l : List α) : ded l = [] ↔ l = [] := by
  constructor
  · intro h
    cases l with
    | nil => rfl
    | cons a t =>
      have := (mem_ded (a :: t) a).2 (by simp)
      rw [h] at this
      simp at this
  · rintro rfl; rfl

/-- The first place of x in l. -/
def idx (l : List α) (x : α) : Nat := l.idxOf x
theorem idx_snoc_mem (l : List α) (x y : α) (h : y ∈ l) : idx (l ++ [x]) y = idx l y := by
  unfold idx; rw [List.idxOf_append, if_pos h]
theorem idx_snoc_new (l : List α) (x : α) (h : ¬ x ∈ l) : idx (l ++ [x]) x = l.length := by
  unfold idx; rw [List.idxOf_append, if_neg h]; simp
theorem idx_lt (l : List α) (x : α) (h : x ∈ l) : idx l x < l.length := List.idxOf_lt_length_of_mem h

theorem pw_mem {β : Type} {R S : β → β → Prop} : ∀ l : List β, l.Pairwise R → (∀ u, u ∈ l → ∀ v, v ∈ l → R u v → S u v) → l.Pairwise S
  | [], _, _ => List.Pairwise.nil
  | a :: t, h, f => List.pairwise_cons.2 ⟨fun v hv => f a (by simp) v (by simp [hv]) ((List.pairwise_cons.1 h).1 v hv), pw_mem t (List.pairwise_cons.1 h).2 (fun u hu v hv => f u (by simp [hu]) v (by simp [hv]))⟩

/-- THE FIRST PLACES RISE ALONG 'ded'. -/
theorem ded_rises (l : List α) : (ded l).Pairwise (fun x y => idx l x < idx l y) := by
  induction l using snoc_ind with
  | h0 => simp [ded]
  | hs l x ih =>
    have old : (ded l).Pairwise (fun u v => idx (l ++ [x]) u < idx (l ++ [x]) v) := by
      refine pw_mem _ ih ?_
      intro u hu v hv h
      rw [idx_snoc_mem l x u ((mem_ded l u).1 hu), idx_snoc_mem l x v ((mem_ded l v).1 hv)]
      exact h
    by_cases h : x ∈ l
    · rw [ded_snoc_old l x h]; exact old
    · rw [ded_snoc_new l x h, List.pairwise_append]
      refine ⟨old, by simp, ?_⟩
      intro u hu v hv
      simp at hv
      subst hv
      rw [idx_snoc_new l v h, idx_snoc_mem l v u ((mem_ded l u).1 hu)]
      exact idx_lt l u ((mem_ded l u).1 hu)

theorem take_snoc {β : Type} (l : List β) (k : Nat) (d : β) (h : k < l.length) : l.take (k + 1) = l.take k ++ [l.getD k d] := by
  rw [List.take_add_one, List.getElem?_eq_getElem h]
  simp [List.getD, List.getElem?_eq_getElem h]

theorem getD_mem {β : Type} (l : List β) (k : Nat) (d : β) (h : k < l.length) : l.getD k d ∈ l := by
  rw [List.getD, List.getElem?_eq_getElem h]; exact List.getElem_mem h

theorem rises_at (l : List α) (d : α) (i j : Nat) (hij : i < j) (hj : j < (ded l).length) : idx l ((ded l).getD i d) < idx l ((ded l).getD j d) := by
  have h := (List.pairwise_iff_getElem.1 (ded_rises l)) i j (by omega) hj hij
  simpa [List.getD, List.getElem?_eq_getElem (show i < (ded l).length by omega), List.getElem?_eq_getElem hj] using h

/-- A LIST LENGTHENED: the old 'ded' stands at the head; what comes behind it was not among the old. -/
theorem ded_append (a b : List α) : ∃ t, ded (a ++ b) = ded a ++ t ∧ ∀ x ∈ t, ¬ x ∈ a := by
  induction b using snoc_ind with
  | h0 => exact ⟨[], by simp, by simp⟩
  | hs b x ih =>
    obtain ⟨t, ht, hn⟩ := ih
    rw [← List.append_assoc]
    by_cases h : x ∈ a ++ b
    · exact ⟨t, by rw [ded_snoc_old _ x h, ht], hn⟩
    · refine ⟨t ++ [x], by rw [ded_snoc_new _ x h, ht, List.append_assoc], ?_⟩
      intro y hy
      rcases List.mem_append.1 hy with hy | hy
      · exact hn y hy
      · simp at hy
        subst hy
        exact fun e => h (List.mem_append_left _ e)

end Go.Proofs.Qxb6605420a.Plain
