/-
  SEAT b6605420a: THE WALK OF FnDistinctKeepsFirstOccurrencesInOrder (function 4).
-/
import Derived.Test.Qxb6605420aSets
namespace Go.Proofs.Qxb6605420a
open Go.RowKit Go.Maps
open Go.WideMaps (keyOf_string_mk)
set_option linter.unusedVariables false

/-- THE MAP 'first' OVER THE STRINGS l: a key for each, its element the first place; as many entries as there are different strings. -/
structure FirstIs {H : Type} (D : DataW H) (l : List ByteArray) : Prop where
  has : ∀ s : ByteArray, Maps.has D (.string s.data.toList) = true ↔ s ∈ l
  place : ∀ s : ByteArray, s ∈ l → ∀ z, D.atKey (.string s.data.toList) z = .lit (.int .i64 (Plain.idx l s : Nat))
  size : Maps.size D = (Plain.ded l).length

theorem firstIs_empty {H : Type} : FirstIs (.map [] : DataW H) [] := ⟨fun s => by simp [Maps.has], fun s h => by simp at h, rfl⟩

theorem FirstIs.put {H : Type} {D : DataW H} (hD : Tidy D) {l : List ByteArray} (h : FirstIs D l) (x : ByteArray) (hx : ¬ x ∈ l) : FirstIs (D.put (.string x.data.toList) (.lit (.int .i64 (l.length : Nat)))) (l ++ [x]) := by
  have hn : Maps.has D (.string x.data.toList) = false := by
    cases e : Maps.has D (.string x.data.toList)
    · rfl
    · exact absurd ((h.has x).1 e) hx
  refine ⟨fun s => ?_, fun s hs z => ?_, ?_⟩
  · by_cases e : s = x
    · subst e; simp [has_put_same hD.isMap (k := .string s.data.toList) trivial]
    · rw [has_put_other (kl_ne e), h.has s]; simp [e]
  · by_cases e : s = x
    · subst e
      rw [atKey_put_same hD.isMap (k := .string s.data.toList) trivial, Plain.idx_snoc_new l s hx]
    · have hsl : s ∈ l := by simpa [e] using hs
      rw [atKey_put_other (kl_ne e), Plain.idx_snoc_mem l x s hsl]
      exact h.place s hsl z
  · rw [size_put hD, hn, Plain.ded_snoc_new l x hx, h.size]
    simp

theorem FirstIs.old {H : Type} {D : DataW H} {l : List ByteArray} (h : FirstIs D l) {x : ByteArray} (hx : x ∈ l) : FirstIs D (l ++ [x]) := by
  refine ⟨fun s => ?_, fun s hs z => ?_, ?_⟩
  · rw [h.has s]
    by_cases e : s = x
    · subst e; simp [hx]
    · simp [e]
  · have hsl : s ∈ l := by
      rcases List.mem_append.1 hs with h1 | h1
      · exact h1
      · simp at h1; subst h1; exact hx
    rw [Plain.idx_snoc_mem l x s hsl]
    exact h.place s hsl z
  · rw [Plain.ded_snoc_old l x hx]; exact h.size

theorem clone_cells {w1 : World} {g len : Nat} {ss : List ByteArray} (hl : ss.length = len) (h : w1.ownsRow g 9 1 (.slice (some ⟨g, 0, none⟩) len len) len (ss.map Value.string)) :
    g < w1.heap.size ∧ ∀ j, j < len → w1.cell? ⟨g, 0 + j, none⟩ = some (.string (ss.getD j ByteArray.empty)) := by
  refine ⟨(h.lt g rfl).2, fun j hj => ?_⟩
  rw [Nat.zero_add, h.cellAt j (by omega), List.getElem?_map, List.getElem?_eq_getElem (by omega)]
  simp [List.getElem?_eq_getElem (show j < ss.length by omega)]

set_option maxHeartbeats 400000 in
theorem keeps_big (a : Option Addr) (len cap : Nat) (ss : List ByteArray) (w : World) (hs : IsStrs w a len ss) (hbig : 4096 < len) :
    Calls Try.prog 4 #[.slice a len cap] w fun e w' => e = .returned (.bool true) ∧ Below w.heap.size w w' := by
  go_enter Try.func4, Try.ntmps4
  go_wp2_with (go_at_call 11; refine (guard11_any hs cap).mono ?_; rintro e w' ⟨⟨r, rfl⟩, hw⟩; subst hw; cases r)
  all_goals
    go_ret
    exact ⟨rfl, Below.refl _ _⟩

set_option maxHeartbeats 400000 in
theorem keeps_none (a : Option Addr) (cap : Nat) (w : World) (hnil : a = none → cap = 0) :
    Calls Try.prog 4 #[.slice a 0 cap] w fun e w' => e = .returned (.bool true) ∧ Below w.heap.size w w' := by
  have hmm := fun (w : World) (n : Int) => run_makeMap_hint (P := Try.prog) 34 9 3 Try.underlying34 .i64 n w
  have hn := fun (a : Option Addr) (n c : Nat) (w : World) => Lib.run_eql_slice_nil (P := Try.prog) w 22 9 a n c 0 0 Try.underlying22
  go_enter Try.func4, Try.ntmps4
  go_wp2_with (first
    | (go_at_call 11; refine (guard11_none a cap _).mono ?_; rintro e w' ⟨⟨r, rfl⟩, hw⟩; subst hw; cases r)
    | (go_at_call 7; refine (bytes_none a cap _).mono ?_; rintro e w' ⟨⟨r, rfl⟩, hw⟩; subst hw)
    | (go_at_call 8; refine (clone_empty a cap _ hnil).mono ?_; rintro e w1 ⟨⟨a', c', rfl⟩, hb1⟩)
    | (go_at_call 12; refine (zzdistinct_none _ _ _).mono ?_; rintro e w2 ⟨rfl, hb2⟩))
  · go_ret
    exact ⟨rfl, Below.refl _ _⟩
  · go_ret
    exact ⟨rfl, Below.refl _ _⟩
  have hb : Below w.heap.size w (w2.alloc (.map #[] 0)) := ((hb1.trans (hb2.mono hb1.size)).alloc (Nat.le_trans hb1.size hb2.size) _)
  refine wp_loop_rounds 1 ?_
  rw [rounds_succ]
  go_wp2_with (first
    | (at_len; refine wpList_len_own _ rfl _ 34 rfl 9 3 Try.underlying34 (plainElem (H := Unit) Try.prog 3) w2.heap.size 0 _ rfl (World.ownsMap_made _ _ _ _) ?_)
    | go_in)
  refine wp_loop_rounds 1 ?_
  rw [rounds_succ]
  go_wp2
  go_ret
  exact ⟨rfl, hb⟩

/-- All that comes from place k on lies, by its first place, behind q. -/
def Ahead (ss : List ByteArray) (k : Nat) (q : Int) : Prop := ∀ j, k ≤ j → j < (Plain.ded ss).length → q < (Plain.idx ss ((Plain.ded ss).getD j ByteArray.empty) : Nat)

theorem ahead_next (ss : List ByteArray) (k : Nat) (hk : k < (Plain.ded ss).length) : Ahead ss (k + 1) (Plain.idx ss ((Plain.ded ss).getD k ByteArray.empty) : Nat) := fun j h1 h2 => by
  have := Plain.rises_at ss ByteArray.empty k j (by omega) h2
  omega

theorem place_bounds {H : Type} {d : DataW H} {c q : Int} {i : Nat} (h1 : d = .lit (.int .i64 (i : Nat))) (h2 : d = .lit (.int .i64 c)) (hq : q < (i : Nat)) : q < c ∧ 0 ≤ c ∧ Hid ((i : Int) = c) := by
  rw [h1] at h2
  simp only [DataW.lit.injEq, Lit.int.injEq, true_and] at h2
  subst h2
  exact ⟨hq, by omega, rfl⟩

set_option maxRecDepth 100000 in
set_option maxHeartbeats 1000000 in
theorem keeps_some (x : Addr) (len cap : Nat) (ss : List ByteArray) (w : World) (hs : IsStrs w (some x) len ss) (h0 : 0 < len) (h4 : len ≤ 4096) :
    Calls Try.prog 4 #[.slice (some x) len cap] w fun e w' => e = .returned (.bool true) ∧ Below w.heap.size w w' := by
  have hmm := fun (w : World) (n : Int) => run_makeMap_hint (P := Try.prog) 34 9 3 Try.underlying34 .i64 n w
  have hn := fun (a : Option Addr) (n c : Nat) (w : World) => Lib.run_eql_slice_nil (P := Try.prog) w 22 9 a n c 0 0 Try.underlying22
  have hl := hs.length
  have hfit := hs.fits
  have hl0 : ((len : Int) == 0) = false := beq_eq_false_iff_ne.2 (by omega)
  go_enter Try.func4, Try.ntmps4
  go_wp2_with (first
    | (go_at_call 11; refine (guard11_any hs cap).mono ?_; rintro e w' ⟨⟨r, rfl⟩, hw⟩; subst hw; cases r)
    | (go_at_call 7; refine (bytes_any hs h4 cap).mono ?_; rintro e w' ⟨⟨r, rfl⟩, hw⟩; subst hw)
    | (go_at_call 8; refine (clone_some x len cap ss _ hs h4).mono ?_; rintro e w1 ⟨rfl, hrow1, hb1⟩; obtain ⟨hlt1, hcell1⟩ := clone_cells hl hrow1; clear hrow1)
    | (go_at_call 12; refine (zzdistinct_some w.heap.size 0 len len ss _ h0 (by omega) hl hlt1 hfit hcell1).mono ?_; rintro e w2 ⟨⟨g, c2, rfl, hg1, hg2, hcell2⟩, hb2⟩))
  · go_ret
    exact ⟨rfl, Below.refl _ _⟩
  · go_ret
    exact ⟨rfl, Below.refl _ _⟩
  have hbw : Below w.heap.size w w2 := hb1.trans (hb2.mono hb1.size)
  have hcA : ∀ j, j < len → w2.cell? ⟨w.heap.size, j, none⟩ = some (.string (ss.getD j ByteArray.empty)) := fun j hj => by
    have := hcell1 j hj
    rw [Nat.zero_add] at this
    exact (hb2.cell (p := ⟨w.heap.size, j, none⟩) hlt1).trans this
  have hltA : w.heap.size < w2.heap.size := Nat.lt_of_lt_of_le hlt1 hb2.size
  clear hcell1 hlt1 hb1 hb2 hg1 hs
  go_loopw [5] (fun i wr => ∃ (k : Nat) (D : DataW Unit), k ≤ len ∧ i = .int .i64 k ∧ wr.ownsMap Try.prog 9 (plainElem Try.prog 3) w2.heap.size k D ∧ FirstIs D (ss.take k) ∧ Below w2.heap.size w2 wr)
    (fun i _ => len - (intOf i).toNat)
  case atStart => exact ⟨0, _, Nat.zero_le _, rfl, World.ownsMap_made _ _ _ _, by rw [List.take_zero]; exact firstIs_empty, (Below.refl _ _).alloc (Nat.le_refl _) _⟩
  case round =>
    obtain ⟨k, D, hk, rfl, hown, hfi, hnx⟩ := hrel
    have hcx : k < len → wr.cell? ⟨w.heap.size, k, none⟩ = some (.string (ss.getD k ByteArray.empty)) := fun h => (hnx.cell (by exact hltA)).trans (hcA k h)
    have hkey : keyOf Try.prog 9 (.string (ss.getD k ByteArray.empty)) = some (.string (ss.getD k ByteArray.empty).data.toList) := keyOf_string_mk Try.underlying9 (fits_at hfit k)
    obtain ⟨s, hs⟩ : ∃ s, s = ss.getD k ByteArray.empty := ⟨_, rfl⟩
    rw [← hs] at hcx hkey
    have HS : Hid (s = ss.getD k ByteArray.empty) := hs
    clear hs
    by_cases hlt : k < len
    · go_wp2_with (first
        | (at_lookup; refine wpList_lookup_own_ok_int _ rfl _ _ 34 rfl 9 3 .i64 law9 Try.underlying34 Try.underlying3 (zero3 _) w2.heap.size k _ rfl hown _ _ rfl hkey ?_; intro c hat hwc; clear hat hwc)
        | (at_mapUpdate; refine wpList_mapUpdate_own _ rfl _ _ _ 34 rfl 9 3 law9 Try.underlying34 (plainElem (H := Unit) Try.prog 3) w2.heap.size k _ rfl hown (by unfold maxLen; omega) _ _ _ rfl rfl hkey _ [] (plainElem_int Try.underlying3 (WalkArith.wf_i64 (by omega))) ?_; intro w3 hown3 hgrow3)
        | go_in)
      · -- A NEW STRING
        have ht : (!Maps.has D (Lit.string s.data.toList)) = true := by assumption
        have hc0 : ¬ s ∈ ss.take k := by
          intro hmem
          rw [(hfi.has s).2 hmem] at ht
          cases ht
        have hfi1 := hfi.put (hown.tidy law9) s hc0
        rw [List.length_take, Nat.min_eq_left (by omega), HS.out, ← Plain.take_snoc ss k ByteArray.empty (by omega)] at hfi1
        go_roundw
        case rel => exact ⟨k + 1, _, by omega, by go_num, by rw [HS.out] at hown3; exact hown3, hfi1, hnx.grown hgrow3 hnx.size (fun j hj => by cases hj; exact Nat.le_refl _)⟩
        case measure => simp [intOf]; omega
      · -- ONE THAT WAS SEEN
        have ht : (!Maps.has D (Lit.string s.data.toList)) = false := by assumption
        have hc1 : s ∈ ss.take k := (hfi.has s).1 (by simpa using ht)
        have hfi1 := hfi.old hc1
        rw [HS.out, ← Plain.take_snoc ss k ByteArray.empty (by omega)] at hfi1
        go_roundw
        case rel => exact ⟨k + 1, D, by omega, by go_num, hown.mono (Nat.le_succ _), hfi1, hnx⟩
        case measure => simp [intOf]; omega
    · have : k = len := by omega
      subst this
      rw [List.take_of_length_le (by omega)] at hfi
      have hsz := hfi.size
      go_wp2_with (first
        | (at_len; refine wpList_len_own _ rfl _ 34 rfl 9 3 Try.underlying34 (plainElem (H := Unit) Try.prog 3) w2.heap.size k _ rfl hown ?_)
        | go_in)
      clear hsz
      have hnl := Plain.ded_length_le ss
      have hmem : ∀ j, j < (Plain.ded ss).length → (Plain.ded ss).getD j ByteArray.empty ∈ ss := fun j hj => (Plain.mem_ded ss _).1 (Plain.getD_mem _ _ _ hj)
      have HM := (show Hid _ from hmem)
      clear hmem
      go_loop [8, 9] (fun p i => ∃ (j : Nat) (q : Int), j ≤ (Plain.ded ss).length ∧ i = .int .i64 j ∧ p = .int .i64 q ∧ -1 ≤ q ∧ q ≤ 4096 ∧ Ahead ss j q)
        (fun _ i => (Plain.ded ss).length - (intOf i).toNat)
      case atStart => exact ⟨0, -1, Nat.zero_le _, rfl, rfl, by omega, by omega, fun i _ _ => by omega⟩
      case round =>
        obtain ⟨j, q, hj, rfl, rfl, hq1, hq2, hah⟩ := hrel
        by_cases hjl : j < (Plain.ded ss).length
        · have hcj : wr.cell? ⟨g, j, none⟩ = some (.string ((Plain.ded ss).getD j ByteArray.empty)) := (hnx.cell (by exact hg2)).trans (hcell2 j hjl)
          have hmj := HM.out j hjl
          have hkj : keyOf Try.prog 9 (.string ((Plain.ded ss).getD j ByteArray.empty)) = some (.string ((Plain.ded ss).getD j ByteArray.empty).data.toList) := keyOf_string_mk Try.underlying9 (hfit _ hmj)
          have hqj := hah j (Nat.le_refl _) hjl
          have hnext := ahead_next ss j hjl
          have hil := Plain.idx_lt ss _ hmj
          obtain ⟨t, ht⟩ : ∃ t, t = (Plain.ded ss).getD j ByteArray.empty := ⟨_, rfl⟩
          rw [← ht] at hcj hmj hkj hqj hnext hil
          clear ht
          have hhas := (hfi.has t).2 hmj
          have hpl := hfi.place t hmj (.lit (.int .i64 0))
          have HP := (show Hid _ from hpl)
          clear hpl
          go_wp2_with (first
            | (at_lookup; refine wpList_lookup_own_ok_int _ rfl _ _ 34 rfl 9 3 .i64 law9 Try.underlying34 Try.underlying3 (zero3 _) w2.heap.size k _ rfl hown _ _ rfl hkj ?_; intro c hat hwc; obtain ⟨hc1, hc2, hc3⟩ := place_bounds HP.out hat hqj; clear hat hwc)
            | go_in)
          have hcl : c < (ss.length : Int) := by have := hc3.out; omega
          rw [hc3.out] at hnext
          go_round
          case rel => exact ⟨j + 1, c, by omega, by go_num, rfl, by omega, by omega, hnext⟩
          case measure => simp [intOf]; omega
        · go_wp2
          go_ret
          exact ⟨rfl, hbw.trans (hnx.mono (Nat.le_of_lt hltA))⟩

/-- THE LAW, WHATEVER THE SLICE. -/
theorem keeps_any (a : Option Addr) (len cap : Nat) (ss : List ByteArray) (w : World) (hs : IsStrs w a len ss) (hnil : a = none → len = 0 ∧ cap = 0) :
    Calls Try.prog 4 #[.slice a len cap] w fun e w' => e = .returned (.bool true) ∧ Below w.heap.size w w' := by
  by_cases hbig : 4096 < len
  · exact keeps_big a len cap ss w hs hbig
  rcases Nat.eq_zero_or_pos len with h0 | h0
  · subst h0
    exact keeps_none a cap w (fun h => (hnil h).2)
  · cases a with
    | none => have := (hnil rfl).1; omega
    | some x => exact keeps_some x len cap ss w hs h0 (by omega)

end Go.Proofs.Qxb6605420a
