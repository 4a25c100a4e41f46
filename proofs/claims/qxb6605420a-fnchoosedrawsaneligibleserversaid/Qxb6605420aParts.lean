/-
  SEAT b6605420a: THE CALLEES' CONTRACTS: the two guards that count bytes (what they answer is of no matter: either way the law goes on or returns true), and the clone of a slice of strings.
-/
import Derived.Test.Qxb6605420aRows
import Derived.Test.Qxb6605420aPlain
import Derived.WalkKit
import Derived.WalkSpells
import Derived.WalkLawsBesides
import Derived.Laws.CopyOwn
import Derived.SliceStrings
namespace Go.Proofs.Qxb6605420a
open Go.RowKit Go.Maps
set_option linter.unusedVariables false

theorem own : ownKnob Try.prog.godebug = none := by kernel_rfl
theorem laidOut : laidOutB Try.prog = true := by kernel_rfl
theorem Try.cells9 : Try.prog.cellsOf 9 = 1 := by kernel_rfl
theorem Try.info9 : (Try.prog.info? 9).map (fun i => (i.zero, i.size, i.bytes)) = some (some (.string ByteArray.empty), 1, 16) := by kernel_rfl
theorem Try.size9 : (Try.prog.info? 9).map (·.size) = some 1 := by kernel_rfl

/-- A SLICE OF STRINGS: its first 'len' cells hold the strings 'ss'. Of an empty one nothing is known. -/
structure IsStrs (w : World) (a : Option Addr) (len : Nat) (ss : List ByteArray) : Prop where
  length : ss.length = len
  fits : ∀ s ∈ ss, s.size ≤ maxLen
  most : len ≤ maxLen
  cells : 0 < len → ∃ b off, a = some ⟨b, off, none⟩ ∧ b < w.heap.size ∧ ∀ j, j < len → w.cell? ⟨b, off + j, none⟩ = some (.string (ss.getD j ByteArray.empty))

theorem fits_at {ss : List ByteArray} (h : ∀ s ∈ ss, s.size ≤ maxLen) (k : Nat) : (ss.getD k ByteArray.empty).size ≤ maxLen := by
  by_cases hk : k < ss.length
  · rw [List.getD, List.getElem?_eq_getElem hk]
    exact h _ (List.getElem_mem hk)
  · rw [List.getD, List.getElem?_eq_none (by omega)]
    exact Nat.zero_le _

/-- SOME number, SOME bool comes back. -/
def RetInt (e : Ending) : Prop := ∃ n : Int, e = .returned (.int .i64 n)
def RetBool (e : Ending) : Prop := ∃ r : Bool, e = .returned (.bool r)

/-! ### 7: zzBytes -/
set_option maxHeartbeats 400000 in
theorem bytes_none (a : Option Addr) (cap : Nat) (w : World) :
    Calls Try.prog 7 #[.slice a 0 cap] w fun e w' => RetInt e ∧ w = w' := by
  go_enter Try.func7, Try.ntmps7
  go_wp2
  refine wp_loop_rounds 1 ?_
  rw [rounds_succ]
  go_wp2
  go_ret
  exact ⟨⟨_, rfl⟩, rfl⟩

set_option maxHeartbeats 400000 in
theorem bytes_some (b off len cap : Nat) (ss : List ByteArray) (w : World) (hlen : len ≤ 4096) (hm : ∀ s ∈ ss, s.size ≤ maxLen)
    (hc : ∀ j, j < len → w.cell? ⟨b, off + j, none⟩ = some (.string (ss.getD j ByteArray.empty))) :
    Calls Try.prog 7 #[.slice (some ⟨b, off, none⟩) len cap] w fun e w' => RetInt e ∧ w = w' := by
  go_enter Try.func7, Try.ntmps7
  go_wp2
  go_loop [3, 4] (fun t i => ∃ (k : Nat) (n : Int), k ≤ len ∧ i = .int .i64 k ∧ t = .int .i64 n) (fun _ i => len - (intOf i).toNat)
  case atStart => exact ⟨0, _, Nat.zero_le _, rfl, rfl⟩
  case round =>
    obtain ⟨k, n, hk, rfl, rfl⟩ := hrel
    have hcell : k < len → w.cell? ⟨b, off + k, none⟩ = some (.string (ss.getD k ByteArray.empty)) := fun h => hc k h
    go_wp2
    · go_ret
      exact ⟨⟨_, rfl⟩, rfl⟩
    · go_round
      case rel => exact ⟨k + 1, _, by omega, by go_num, rfl⟩
      case measure => simp [intOf]; omega
    · go_ret
      exact ⟨⟨_, rfl⟩, rfl⟩

theorem bytes_any {a : Option Addr} {len : Nat} {ss : List ByteArray} {w : World} (h : IsStrs w a len ss) (hlen : len ≤ 4096) (cap : Nat) :
    Calls Try.prog 7 #[.slice a len cap] w fun e w' => RetInt e ∧ w = w' := by
  rcases Nat.eq_zero_or_pos len with h0 | h0
  · subst h0; exact bytes_none a cap w
  · obtain ⟨b, off, rfl, _, hc⟩ := h.cells h0
    exact bytes_some b off len cap ss w hlen h.fits hc

/-! ### 11: zzBytes_FnDistinctKeepsFirstOccurrencesInOrder -/
set_option maxHeartbeats 400000 in
theorem guard11_none (a : Option Addr) (cap : Nat) (w : World) :
    Calls Try.prog 11 #[.slice a 0 cap] w fun e w' => RetBool e ∧ w = w' := by
  go_enter Try.func11, Try.ntmps11
  go_wp2
  refine wp_loop_rounds 1 ?_
  rw [rounds_succ]
  go_wp2
  go_ret
  exact ⟨⟨_, rfl⟩, rfl⟩

set_option maxHeartbeats 400000 in
theorem guard11_some (b off len cap : Nat) (ss : List ByteArray) (w : World) (hlen : len ≤ maxLen) (hm : ∀ s ∈ ss, s.size ≤ maxLen)
    (hc : ∀ j, j < len → w.cell? ⟨b, off + j, none⟩ = some (.string (ss.getD j ByteArray.empty))) :
    Calls Try.prog 11 #[.slice (some ⟨b, off, none⟩) len cap] w fun e w' => RetBool e ∧ w = w' := by
  unfold maxLen at hlen
  go_enter Try.func11, Try.ntmps11
  go_wp2
  · go_ret
    exact ⟨⟨_, rfl⟩, rfl⟩
  go_loop [3, 4] (fun t i => ∃ (k : Nat) (n : Int), k ≤ len ∧ i = .int .i64 k ∧ t = .int .i64 n) (fun _ i => len - (intOf i).toNat)
  case atStart => exact ⟨0, _, Nat.zero_le _, rfl, rfl⟩
  case round =>
    obtain ⟨k, n, hk, rfl, rfl⟩ := hrel
    have hcell : k < len → w.cell? ⟨b, off + k, none⟩ = some (.string (ss.getD k ByteArray.empty)) := fun h => hc k h
    go_wp2
    · go_ret
      exact ⟨⟨_, rfl⟩, rfl⟩
    · go_ret
      exact ⟨⟨_, rfl⟩, rfl⟩
    · go_round
      case rel => exact ⟨k + 1, _, by omega, by go_num, rfl⟩
      case measure => simp [intOf]; omega
    · go_ret
      exact ⟨⟨_, rfl⟩, rfl⟩

theorem guard11_any {a : Option Addr} {len : Nat} {ss : List ByteArray} {w : World} (h : IsStrs w a len ss) (cap : Nat) :
    Calls Try.prog 11 #[.slice a len cap] w fun e w' => RetBool e ∧ w = w' := by
  rcases Nat.eq_zero_or_pos len with h0 | h0
  · subst h0; exact guard11_none a cap w
  · obtain ⟨b, off, rfl, _, hc⟩ := h.cells h0
    exact guard11_some b off len cap ss w h.most h.fits hc

/-! ### 8: zzCloneStrings -/
set_option maxHeartbeats 400000 in
theorem clone_nil (w : World) : Calls Try.prog 8 #[.slice none 0 0] w fun e w' => e = .returned (.slice none 0 0) ∧ w = w' := by
  have hn := fun (a : Option Addr) (n c : Nat) (w : World) => Lib.run_eql_slice_nil (P := Try.prog) w 22 9 a n c 0 0 Try.underlying22
  go_enter Try.func8, Try.ntmps8
  go_wp2
  go_ret
  exact ⟨rfl, rfl⟩

/-- Not nil: a row of its own, with the same strings in it. -/
theorem splice_whole {α : Type} (L cs : List α) (h : L.length = cs.length) : splice L 0 cs = cs := by
  simp [splice, ← h]

theorem own_block {w : World} {base g n : Nat} {e : TypeId} {xs : List Value} (h : w.ownsRow base e 1 (.slice (some ⟨g, 0, none⟩) n n) n xs) :
    base ≤ g ∧ w.heap[g]? = some (.cells xs.toArray e (0, 0)) := by
  obtain ⟨hl, ⟨h0, _⟩ | ⟨g', cap, cur, hv, hb, hh, _, _, hs, ht⟩⟩ := h
  · cases h0
  · simp only [Value.slice.injEq, Option.some.injEq, Addr.mk.injEq] at hv
    obtain ⟨⟨rfl, _⟩, _, rfl⟩ := hv
    refine ⟨hb, ?_⟩
    rw [hh, ← ht, List.take_of_length_le (by simp; omega)]

theorem own_of_block {w : World} {base g n : Nat} {e : TypeId} {xs : List Value} (hb : base ≤ g) (hn : xs.length = n) (hm : n ≤ maxLen) (h : w.heap[g]? = some (.cells xs.toArray e (0, 0))) :
    w.ownsRow base e 1 (.slice (some ⟨g, 0, none⟩) n n) n xs :=
  ⟨by omega, .inr ⟨g, n, xs.toArray, rfl, hb, h, Nat.le_refl _, hm, by simp; omega, by simp; exact List.take_of_length_le (by omega)⟩⟩

theorem strs_oneCell (ss : List ByteArray) : ∀ v ∈ ss.map Value.string, v.oneCell' = true := by
  intro v hv
  obtain ⟨s, _, rfl⟩ := List.mem_map.1 hv
  rfl

theorem copy_src {w w1 : World} {x : Addr} {len : Nat} {ss : List ByteArray} (hs : IsStrs w (some x) len ss) (hb : Below w.heap.size w w1) (g : Nat) :
    0 < (ss.map Value.string).length → (some ⟨g, 0, none⟩ : Option Addr) = some ⟨g, 0, none⟩ ∧ ∃ ad, some x = some ad ∧ ∀ j v, (ss.map Value.string)[j]? = some v → w1.cell? (ad.add j) = some v := by
  intro h0
  have hl := hs.length
  obtain ⟨b, off, hx, hbs, hc⟩ := hs.cells (by simp at h0; omega)
  cases hx
  refine ⟨rfl, _, rfl, ?_⟩
  intro j v hv
  rw [List.getElem?_map] at hv
  cases hj : ss[j]? with
  | none => rw [hj] at hv; cases hv
  | some s =>
    rw [hj] at hv
    simp at hv
    subst hv
    have hjl := (List.getElem?_eq_some_iff.1 hj).1
    have := hc j (by omega)
    rw [List.getD, hj] at this
    have e := hb.cell (p := ⟨b, off + j, none⟩) hbs
    rw [this] at e
    rw [WideShapes.add_plain]
    exact e

set_option maxHeartbeats 400000 in
theorem clone_some (x : Addr) (len cap : Nat) (ss : List ByteArray) (w : World) (hs : IsStrs w (some x) len ss) (h4 : len ≤ 4096) :
    Calls Try.prog 8 #[.slice (some x) len cap] w fun e w' => e = .returned (.slice (some ⟨w.heap.size, 0, none⟩) len len) ∧ w'.ownsRow w.heap.size 9 1 (.slice (some ⟨w.heap.size, 0, none⟩) len len) len (ss.map Value.string) ∧ Below w.heap.size w w' := by
  have hn := fun (a : Option Addr) (n c : Nat) (w : World) => Lib.run_eql_slice_nil (P := Try.prog) w 22 9 a n c 0 0 Try.underlying22
  obtain ⟨i0, hi, hz0, hz1, hz2⟩ := info_parts Try.info9
  have hl := hs.length
  go_enter Try.func8, Try.ntmps8
  go_wp2_with (first
    | (at_make; refine wpList_make_full _ rfl _ _ 22 rfl w.heap.size 9 i0 (.string ByteArray.empty) 1 Try.underlying22 hi hz0 hz1 .i64 .i64 _ _ len rfl rfl rfl rfl ?_ ?_ ?_ ?_)
    | go_in)
  · have := hz2; rw [this]; omega
  · unfold maxLen; omega
  · exact Nat.le_refl _
  · intro w1 hown1 hg1
    obtain ⟨_, hblk⟩ := own_block hown1
    have hb1 : Below w.heap.size w w1 := (Below.refl _ _).grown hg1 (Nat.le_refl _) (fun _ h => by cases h)
    have hlen1 := hown1.1
    clear hown1 hg1
    generalize (madeCells #[Value.string ByteArray.empty] len).toList = cur at hblk hlen1
    have HB : Hid (w1.heap[w.heap.size]? = some (.cells cur.toArray 9 (0, 0))) := hblk
    clear hblk
    go_wp2_with (first
      | (refine wpList_copy_splice rfl _ _ 22 22 rfl 9 Try.underlying22 Try.size9 _ _ _ _ _ _ rfl rfl w.heap.size 0 cur 9 HB.out (ss.map Value.string) ?_ (copy_src hs hb1 w.heap.size) ?_ (strs_oneCell ss) w.heap.size w hb1 (Nat.le_refl _) ?_)
      | go_in)
    · simp; omega
    · simp; omega
    · intro w2 HG hB2
      rw [splice_whole cur _ (by simp; omega)] at HG
      go_wp2
      go_ret
      exact ⟨rfl, own_of_block (Nat.le_refl _) (by simp; omega) (by unfold maxLen; omega) HG.out, hB2⟩

/-- An empty slice, nil or not: an empty one. -/
theorem clone_empty (a : Option Addr) (cap : Nat) (w : World) (hnil : a = none → cap = 0) :
    Calls Try.prog 8 #[.slice a 0 cap] w fun e w' => (∃ a' c', e = .returned (.slice a' 0 c')) ∧ Below w.heap.size w w' := by
  cases a with
  | none =>
    obtain rfl := hnil rfl
    refine (clone_nil w).mono ?_
    rintro e w' ⟨rfl, rfl⟩
    exact ⟨⟨_, _, rfl⟩, Below.refl _ _⟩
  | some x =>
    refine (clone_some x 0 cap [] w ⟨rfl, by simp, Nat.zero_le _, fun h => by cases h⟩ (by omega)).mono ?_
    rintro e w' ⟨rfl, _, hb⟩
    exact ⟨⟨_, _, rfl⟩, hb⟩

end Go.Proofs.Qxb6605420a
