/-
  SEAT b6605427a: THE WALKS OF zzBit (8) AND zzTaken (6).
-/
import Derived.Test.Qxb6605427aArr
import Derived.Test.Qxb6605427aSwap
namespace Go.Proofs.Qxb6605427a
open Go.RowKit
open Plain (pos tst setB clrB clrTo zeros took isNew newH newB Ok)
set_option linter.unusedVariables false

theorem Arr.word {w : World} {g : Nat} {bs : List Nat} (h : Arr w g bs) (hl : bs.length = 16) (k : Nat) (hk : k < 16) : w.cell? ⟨g, k, none⟩ = some (.int .u64 (bs.getD k 0 : Nat)) := by
  rw [cell_of_row w g k _ _ _ h, List.getElem?_toArray, words_get bs k (by omega)]
theorem Arr.thaw {w : World} {g : Nat} {bs : List Nat} (h : Arr w g bs) (j : Nat) : w.frozen? ⟨g, j, none⟩ = false := by
  simp only [Arr] at h
  simp [World.frozen?, h]

theorem shr_test (x j : Nat) (hx : x < 18446744073709551616) (hj : j < 64) : (bits .and .u64 ((x : Int) / 2 ^ j) 1 == 1) = x.testBit j := by
  have e : ((x : Int) / 2 ^ j) = ((x / 2 ^ j : Nat) : Int) := by simp
  have hlt : x / 2 ^ j < 18446744073709551616 := Nat.lt_of_le_of_lt (Nat.div_le_self _ _) hx
  have h1 := u64_and_nat (x / 2 ^ j) 1 hlt (by decide)
  rw [e, show (1 : Int) = ((1 : Nat) : Int) from rfl, h1, nat_mask1, Nat.testBit_eq_decide_div_mod_eq]
  rcases Nat.mod_two_eq_zero_or_one (x / 2 ^ j) with e | e <;> rw [e] <;> rfl

/-- What zzPos and zzBit answer, in letters. -/
def PosIs (m : Int) (q : Nat) : Prop := ∀ w : World, Calls Try.prog 9 #[.int .i64 m] w fun e w' => e = .returned (.int .i64 (q : Nat)) ∧ w = w'
def BitIs' (cs : List Value) (q : Nat) (t : Bool) : Prop := ∀ w : World, Calls Try.prog 8 #[.agg cs.toArray, .int .i64 (q : Nat)] w fun e w' => e = .returned (.bool t) ∧ Below w.heap.size w w'
def BitIs (bs : List Nat) (q : Nat) (t : Bool) : Prop := BitIs' (words bs) q t

set_option maxHeartbeats 400000 in
theorem zzBit_walk (p k j x : Nat) (bs : List Nat) (w : World) (hp : p < 1024) (hk : p / 64 = k) (hj : p % 64 = j) (hl : bs.length = 16) (hx : x < 18446744073709551616) (c1 : (w.alloc (.cells (words bs).toArray 23)).cell? ⟨w.heap.size, k, none⟩ = some (.int .u64 (x : Nat))) :
    Calls Try.prog 8 #[.agg (words bs).toArray, .int .i64 p] w fun e w' => e = .returned (.bool (x.testBit j)) ∧ w' = w.alloc (.cells (words bs).toArray 23) := by
  go_enter Try.func8, Try.ntmps8
  go_wp2
  go_ret
  rw [shr_test x j hx (by omega)]
  exact ⟨rfl, rfl⟩

theorem zzBit_any (p : Nat) (bs : List Nat) (w : World) (hp : p < 1024) (hok : Ok bs) :
    Calls Try.prog 8 #[.agg (words bs).toArray, .int .i64 p] w fun e w' => e = .returned (.bool (tst bs p)) ∧ Below w.heap.size w w' := by
  have c1 := (arr_new w bs).word hok.len (p / 64) (by omega)
  refine (zzBit_walk p (p / 64) (p % 64) _ bs w hp rfl rfl hok.len (hok.at _) c1).mono ?_
  rintro e w' ⟨rfl, rfl⟩
  exact ⟨rfl, (Below.refl _ _).alloc (Nat.le_refl _) _⟩

/-- The array's block, as a range. -/
theorem Arr.range {w : World} {g : Nat} {bs : List Nat} (h : Arr w g bs) : w.rangeAt g 0 (words bs) := fun j v hv => by
  rw [cell_of_row w g (0 + j) _ _ _ h, List.getElem?_toArray, Nat.zero_add]
  exact hv

theorem range_below {w w' : World} {g o : Nat} {cs : List Value} (h : w.rangeAt g o cs) (hb : Below w.heap.size w w') : w'.rangeAt g o cs := fun j v hv => by
  have h1 := h j v hv
  exact (hb.cell (p := ⟨g, o + j, none⟩) (World.block_lt_of_cell? _ _ h1)).trans h1

set_option maxHeartbeats 400000 in
theorem taken_in (h m : Int) (bs : List Nat) (w : World) (hok : Ok bs) (h0 : 0 ≤ h) (h1 : h ≤ 2147483647) (m0 : 0 < m) (m1 : m ≤ h) (m2 : h - 1024 < m) :
    Calls Try.prog 6 #[.int .i64 h, .agg (words bs).toArray, .int .i64 m] w fun e w' => e = .returned (.bool (tst bs (pos m))) ∧ Below w.heap.size w w' := by
  have hl := hok.len
  have hcl : (words bs).length = 16 := by rw [words_length, hl]
  have hc1 : ∀ v ∈ words bs, v.oneCell' = true := fun v hv => by
    obtain ⟨s, _, rfl⟩ := List.mem_map.1 hv
    rfl
  have hu := Try.underlying23
  have hi : (Try.prog.info? 23).map (·.size) = some (words bs).length := by rw [Try.size23, hcl]
  have hr := (arr_new w bs).range
  have hz : ∀ w, Calls Try.prog 9 #[.int .i64 m] w fun e w' => e = .returned (.int .i64 (pos m : Nat)) ∧ w = w' := fun w => zzPos_any m w (by omega) (by omega)
  have HZ : PosIs m (pos m) := hz
  have hbit : ∀ w, Calls Try.prog 8 #[.agg (words bs).toArray, .int .i64 (pos m : Nat)] w fun e w' => e = .returned (.bool (tst bs (pos m))) ∧ Below w.heap.size w w' := fun w => zzBit_any (pos m) bs w (Plain.pos_lt m) hok
  have HB : BitIs bs (pos m) (tst bs (pos m)) := hbit
  clear hz hbit
  obtain ⟨q, hq⟩ : ∃ q, q = pos m := ⟨_, rfl⟩
  obtain ⟨t, ht⟩ : ∃ t, t = tst bs (pos m) := ⟨_, rfl⟩
  rw [← ht] at HB ⊢
  rw [← hq] at HZ HB
  clear hq ht
  obtain ⟨cs, hcs⟩ : ∃ cs, cs = words bs := ⟨_, rfl⟩
  have HCS : Hid (cs = words bs) := hcs
  unfold BitIs at HB
  rw [← hcs] at hcl hc1 hi hr HB ⊢
  clear hcs
  have HBB := (show BitIs' cs q t from HB)
  clear HB
  go_enter Try.func6, Try.ntmps6
  go_wp2
  go_region_held3 (fun w' => w'.rangeAt w.heap.size 0 cs) (first | exact range_below (by simpa using hr) hb | (simpa using hr)) (first | (go_at_call 9; refine (HZ _).mono ?_; rintro e w' ⟨rfl, hw⟩; subst hw) | (go_at_call 8; refine (HBB _).mono ?_; rintro e w' ⟨rfl, hb⟩))
  go_wp2
  go_ret
  exact ⟨rfl, (((Below.refl w.heap.size w).alloc (Nat.le_refl _) _).drew).trans (hb.mono (show w.heap.size ≤ _ by simp))⟩

/-- zzTaken: 'not new'. -/
theorem taken_any (h m : Int) (bs : List Nat) (w : World) (hok : Ok bs) (h0 : 0 ≤ h) (h1 : h ≤ 2147483647) (m0 : -2147483648 ≤ m) (m1 : m ≤ 2147483647) :
    Calls Try.prog 6 #[.int .i64 h, .agg (words bs).toArray, .int .i64 m] w fun e w' => e = .returned (.bool (!isNew h bs m)) ∧ Below w.heap.size w w' := by
  by_cases c1 : m ≤ 0
  · have e : isNew h bs m = false := by
      cases e : isNew h bs m
      · rfl
      · have := (Plain.isNew_iff _ _ _).1 e; omega
    rw [e]
    go_enter Try.func6, Try.ntmps6
    go_wp2
    go_ret
    exact ⟨rfl, (Below.refl _ _).alloc (Nat.le_refl _) _⟩
  by_cases c2 : h < m
  · have e : isNew h bs m = true := Plain.new_above h m h0 c2
    rw [e]
    go_enter Try.func6, Try.ntmps6
    go_wp2
    go_ret
    exact ⟨rfl, (Below.refl _ _).alloc (Nat.le_refl _) _⟩
  by_cases c3 : m ≤ h - 1024
  · have e : isNew h bs m = false := by
      cases e : isNew h bs m
      · rfl
      · have := (Plain.isNew_iff _ _ _).1 e; omega
    rw [e]
    go_enter Try.func6, Try.ntmps6
    go_wp2
    go_ret
    exact ⟨rfl, (Below.refl _ _).alloc (Nat.le_refl _) _⟩
  have e : (!isNew h bs m) = tst bs (pos m) := by
    unfold Plain.isNew
    rw [decide_eq_true (show 0 < m by omega), decide_eq_true (show h - 1024 < m by omega), decide_eq_false (show ¬ h < m by omega)]
    simp
  rw [e]
  exact taken_in h m bs w hok h0 h1 (by omega) (by omega) (by omega)

end Go.Proofs.Qxb6605427a
