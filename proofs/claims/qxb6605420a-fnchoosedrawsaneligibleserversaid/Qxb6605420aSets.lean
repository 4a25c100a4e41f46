/-
  SEAT b6605420a: A SET OF STRINGS ('map[string]bool', true alone stored): what its datum says; THE LAW AT 'seen[s]' (no 'ok'); 'make(map, n)'.
-/
import Derived.Test.Qxb6605420aParts
namespace Go.Proofs.Qxb6605420a
open Go.RowKit Go.Maps
open Go.WideMaps (keyOf_string_mk)
set_option linter.unusedVariables false

theorem run_makeMap_hint {P : Program} (t k e : TypeId) (hu : P.underlying t = some (.map k e)) (q : IntKind) (n : Int) (w : World) :
    (Instr.makeMap t (some (.int q n))).run P w = .ok (.map (some w.heap.size)) (w.alloc (.map #[] 0)) := by
  simp [Instr.makeMap, run_underlying hu, asInt, asIntOf, Result.andThen]

/-- Whatever is there is true. -/
def AllTrue {H : Type} (D : DataW H) : Prop := ∀ kl z, Maps.has D kl = true → D.atKey kl z = .lit (.bool true)
/-- THE SET HOLDS JUST THE STRINGS OF l. -/
def SetIs {H : Type} (D : DataW H) (l : List ByteArray) : Prop := AllTrue D ∧ ∀ s : ByteArray, Maps.has D (.string s.data.toList) = true ↔ s ∈ l

theorem kl_ne {s t : ByteArray} (h : s ≠ t) : (Lit.string s.data.toList) ≠ .string t.data.toList := by
  intro e
  apply h
  simp only [Lit.string.injEq] at e
  cases s; cases t
  simp only [ByteArray.mk.injEq]
  exact Array.toList_inj.1 e

theorem AllTrue.put {H : Type} {D : DataW H} (hD : IsMap D) (h : AllTrue D) {kl : Lit} (hk : WideAt.IsKeyLit kl) : AllTrue (D.put kl (.lit (.bool true))) := by
  intro kl' z hh
  by_cases e : kl' = kl
  · subst e; exact atKey_put_same hD hk _ _
  · rw [has_put_other e] at hh
    rw [atKey_put_other e]
    exact h kl' z hh

theorem setIs_empty {H : Type} : SetIs (.map [] : DataW H) [] := ⟨fun kl z h => by simp [Maps.has] at h, fun s => by simp [Maps.has]⟩

theorem SetIs.put {H : Type} {D : DataW H} (hD : IsMap D) {l : List ByteArray} (h : SetIs D l) (x : ByteArray) : SetIs (D.put (.string x.data.toList) (.lit (.bool true))) (l ++ [x]) := by
  refine ⟨h.1.put hD trivial, fun s => ?_⟩
  by_cases e : s = x
  · subst e; simp [has_put_same hD (k := .string s.data.toList) trivial]
  · rw [has_put_other (kl_ne e), h.2 s]; simp [e]

theorem SetIs.old {H : Type} {D : DataW H} {l : List ByteArray} (h : SetIs D l) {x : ByteArray} (hx : x ∈ l) : SetIs D (l ++ [x]) := by
  refine ⟨h.1, fun s => ?_⟩
  rw [h.2 s]
  by_cases e : s = x
  · subst e; simp [hx]
  · simp [e]

theorem plainElem_bool_inv {H : Type} {P : Program} {e : TypeId} (he : P.underlying e = some .bool) {v : Value} {z : DataW H × List MemPlace} (h : plainElem P e v = some z) : ∃ c, v = .bool c ∧ z = (.lit (.bool c), []) := by
  unfold plainElem at h
  rw [he] at h
  cases v <;> simp at h
  exact ⟨_, rfl, h.symm⟩

/-- 'seen[s]' (without 'ok'): TRUE JUST IF THE KEY IS THERE. -/
theorem wpList_lookup_set {H : Type} {P : Program} (w : World) {ops : Array Oper} {rest : List Oper} {o : Oper} {a : Act} {Q : Exit → Act → World → Prop}
    (hg : o.guard = none) (m x : Operand) (t : TypeId) (hop : o.op = Op.lookup t m x false)
    (k e : TypeId) (K : Keyed P k) (ht : P.underlying t = some (.map k e)) (he : P.underlying e = some .bool) (hz : (zeroValue e).run P w = .ok (.bool false) w) (b n : Nat) (D : DataW H)
    (hm : a.eval m = .map (some b)) (hown : w.ownsMap P k (plainElem P e) b n D) (hall : AllTrue D) (key : Value) (kl : Lit) (hx : a.eval x = key) (hkey : keyOf P k key = some kl)
    (hK : wpList P ops Q rest (a.put o.dst (.bool (Maps.has D kl))) w) :
    wpList P ops Q (o :: rest) a w := by
  refine wpList_plain hg fun K' hK' => ?_
  obtain ⟨v, ps, hrun, hv⟩ := hown.lookup K ht hz (plainElem_bool he false) hkey
  obtain ⟨c, rfl, hc⟩ := plainElem_bool_inv he hv
  have hc1 : D.atKey kl (.lit (.bool false)) = .lit (.bool c) := congrArg Prod.fst hc
  have e1 : c = Maps.has D kl := by
    cases hh : Maps.has D kl
    · rw [atKey_of_not_has hh] at hc1; cases hc1; rfl
    · rw [hall kl _ hh] at hc1; cases hc1; rfl
  subst e1
  unfold Oper.wp
  simp [execOp, hop, hm, hx, hrun, Result.andThen]
  exact hK' _ _ hK

theorem law9 : Keyed Try.prog 9 := string_keyed Try.underlying9
theorem zero4 (w : World) : (zeroValue 4).run Try.prog w = .ok (.bool false) w := by kernel_rfl
theorem zero3 (w : World) : (zeroValue 3).run Try.prog w = .ok (.int .i64 0) w := by kernel_rfl

theorem row_ne {w : World} {base : Nat} {e : TypeId} {size : Nat} {v : Value} {n : Nat} {xs : List Value} (h : w.ownsRow base e size v n xs) {b : Nat} (hb : b < base) : some b ≠ v.ownBlock := fun e1 => by
  have := (h.lt b e1.symm).1
  omega

/-! ### 15: distinct -/
/-- The strings gathered behind k rounds. -/
def A (ss : List ByteArray) (k : Nat) : List ByteArray := Plain.ded (ss.take k)
theorem A_zero (ss : List ByteArray) : A ss 0 = [] := by simp [A, Plain.ded]
theorem A_le (ss : List ByteArray) (k : Nat) : (A ss k).length ≤ k := by
  have := Plain.ded_length_le (ss.take k)
  simp at this
  unfold A
  omega
theorem A_old (ss : List ByteArray) (k : Nat) (hk : k < ss.length) (h : ss.getD k ByteArray.empty ∈ ss.take k) : A ss (k + 1) = A ss k := by
  unfold A; rw [Plain.take_snoc ss k ByteArray.empty hk, Plain.ded_snoc_old _ _ h]
theorem A_new (ss : List ByteArray) (k : Nat) (hk : k < ss.length) (h : ¬ ss.getD k ByteArray.empty ∈ ss.take k) : A ss (k + 1) = A ss k ++ [ss.getD k ByteArray.empty] := by
  unfold A; rw [Plain.take_snoc ss k ByteArray.empty hk, Plain.ded_snoc_new _ _ h]

set_option maxRecDepth 100000 in
set_option maxHeartbeats 400000 in
theorem distinct_none (a : Option Addr) (cap : Nat) (w : World) : Calls Try.prog 15 #[.slice a 0 cap] w fun e w' => e = .returned (.slice none 0 0) ∧ Below w.heap.size w w' := by
  have hmm := @run_makeMap Try.prog
  go_enter Try.func15, Try.ntmps15
  go_wp2
  refine wp_loop_rounds 1 ?_
  rw [rounds_succ]
  go_wp2
  go_ret
  exact ⟨rfl, (Below.refl _ _).alloc (Nat.le_refl _) _⟩

set_option maxRecDepth 100000 in
set_option maxHeartbeats 800000 in
theorem distinct_some (b off len cap : Nat) (ss : List ByteArray) (w : World) (hlen : len ≤ 8192) (hz : ss.length = len) (hb : b < w.heap.size) (hm : ∀ s ∈ ss, s.size ≤ maxLen)
    (hc : ∀ j, j < len → w.cell? ⟨b, off + j, none⟩ = some (.string (ss.getD j ByteArray.empty))) :
    Calls Try.prog 15 #[.slice (some ⟨b, off, none⟩) len cap] w fun e w' => ∃ v, e = .returned v ∧ w'.ownsRow (w.heap.size + 1) 9 1 v (A ss len).length ((A ss len).map Value.string) ∧ Below w.heap.size w w' ∧ (A ss len = [] → v = .slice none 0 0) := by
  have hmm := @run_makeMap Try.prog
  obtain ⟨i0, hi, hz0, hz1, hz2⟩ := info_parts Try.info9
  go_enter Try.func15, Try.ntmps15
  go_wp2
  go_loopw [4, 10] (fun v i wr => ∃ (k : Nat) (D : DataW Unit), k ≤ len ∧ i = .int .i64 k ∧ wr.ownsMap Try.prog 9 (plainElem Try.prog 4) w.heap.size k D ∧ SetIs D (ss.take k) ∧ wr.ownsRow (w.heap.size + 1) 9 1 v (A ss k).length ((A ss k).map Value.string) ∧
      Below w.heap.size w wr ∧ w.heap.size + 1 ≤ wr.heap.size ∧ (A ss k = [] → v = .slice none 0 0))
    (fun _ i _ => len - (intOf i).toNat)
  case atStart => exact ⟨0, _, Nat.zero_le _, rfl, World.ownsMap_made _ _ _ _, by rw [List.take_zero]; exact setIs_empty, by rw [A_zero]; exact World.ownsRow_nil _ _ _ _, (Below.refl _ _).alloc (Nat.le_refl _) _, by simp, fun _ => rfl⟩
  case round =>
    obtain ⟨k, D, hk, rfl, hown, hset, hrow, hnx, hws, hnil⟩ := hrel
    have hcx : k < len → wr.cell? ⟨b, off + k, none⟩ = some (.string (ss.getD k ByteArray.empty)) := fun h => (hnx.cell (by exact hb)).trans (hc k h)
    have hkey : keyOf Try.prog 9 (.string (ss.getD k ByteArray.empty)) = some (.string (ss.getD k ByteArray.empty).data.toList) := keyOf_string_mk Try.underlying9 (fits_at hm k)
    have hal := A_le ss k
    have hall := hset.1
    obtain ⟨s, hs⟩ : ∃ s, s = ss.getD k ByteArray.empty := ⟨_, rfl⟩
    rw [← hs] at hcx hkey
    have HS : Hid (s = ss.getD k ByteArray.empty) := hs
    clear hs
    go_wp2_with (first
      | (at_lookup; refine wpList_lookup_set _ rfl _ _ 30 rfl 9 4 law9 Try.underlying30 Try.underlying4 (zero4 _) w.heap.size k _ rfl hown hall _ _ rfl hkey ?_)
      | (at_mapUpdate; refine wpList_mapUpdate_own _ rfl _ _ _ 30 rfl 9 4 law9 Try.underlying30 (plainElem (H := Unit) Try.prog 4) w.heap.size k _ rfl hown (by unfold maxLen; omega) _ _ _ rfl rfl hkey _ [] (plainElem_bool Try.underlying4 true) ?_; intro w1 hown1 hgrow1)
      | (at_builtin; refine wpList_append_own _ rfl _ _ 22 rfl (w.heap.size + 1) 9 i0 (.string ByteArray.empty) 1 16 Try.underlying22 hi hz0 hz1 hz2 rfl (by decide) _ _ _ rfl ((hrow.kept hgrow1 (Or.inr (row_ne hrow (Nat.lt_succ_self _)).symm)).alloc _) ⟨w1.heap.size, 0, none⟩ 1 1 [.string s] rfl rfl (cell_one_new _ _ _) (strs_oneCell [s]) (by unfold maxLen; omega) (by omega) (by have := hgrow1.size; simp at this ⊢; omega) ?_; intro v' w2 hown' hgrow2 hnil2)
      | go_in)
    · -- A NEW STRING: into the set, and to the slice's end
      have hlt : k < len := by assumption
      have ht : (!Maps.has D (Lit.string s.data.toList)) = true := by assumption
      have hc0 : ¬ ss.getD k ByteArray.empty ∈ ss.take k := by
        rw [← HS.out]
        intro hmem
        rw [(hset.2 s).2 hmem] at ht
        cases ht
      have hr1 := hrow.kept hgrow1 (Or.inr (row_ne hrow (Nat.lt_succ_self _)).symm)
      have hset1 := hset.put hown.isMap s
      have s1 := hgrow1.size
      have s2 := hgrow2.size
      simp at s1 s2
      go_roundw
      case rel =>
        refine ⟨k + 1, _, by omega, by go_num, (hown1.alloc _).kept hgrow2 (row_ne hr1 (Nat.lt_succ_self _)), ?_, ?_, ?_, by omega, fun h => absurd h (by rw [A_new ss k (by omega) hc0]; simp)⟩
        · rw [Plain.take_snoc ss k ByteArray.empty (by omega), ← HS.out]; exact hset1
        · rw [A_new ss k (by omega) hc0, ← HS.out]
          simpa using hown'
        · exact (((hnx.grown hgrow1 hnx.size (fun j hj => by cases hj; exact Nat.le_refl _)).alloc (by omega) _).grown hgrow2 (by simp; omega) (fun j hj => Nat.le_trans (Nat.le_succ _) (hr1.lt j hj).1))
      case measure => simp [intOf]; omega
    · -- ONE THAT WAS SEEN
      have hlt : k < len := by assumption
      have ht : (!Maps.has D (Lit.string s.data.toList)) = false := by assumption
      have hc1 : ss.getD k ByteArray.empty ∈ ss.take k := by
        rw [← HS.out]
        exact (hset.2 s).1 (by simpa using ht)
      go_roundw
      case rel =>
        refine ⟨k + 1, D, by omega, by go_num, hown.mono (Nat.le_succ _), ?_, ?_, hnx, hws, fun h => hnil (by rw [← A_old ss k (by omega) hc1]; exact h)⟩
        · rw [Plain.take_snoc ss k ByteArray.empty (by omega)]; exact hset.old hc1
        · rw [A_old ss k (by omega) hc1]; exact hrow
      case measure => simp [intOf]; omega
    · have : k = len := by omega
      subst this
      go_ret
      exact ⟨_, rfl, hrow, hnx, hnil⟩

/-! ### 12: ZZdistinct -/
set_option maxHeartbeats 400000 in
theorem zzdistinct_none (a : Option Addr) (cap : Nat) (w : World) : Calls Try.prog 12 #[.slice a 0 cap] w fun e w' => e = .returned (.slice none 0 0) ∧ Below w.heap.size w w' := by
  go_enter Try.func12, Try.ntmps12
  go_wp2_with (go_at_call 15; refine (distinct_none _ _ _).mono ?_; rintro e w1 ⟨rfl, hb⟩)
  go_ret
  exact ⟨rfl, hb⟩

/-- Of a list that is not empty: a row of its own. -/
def IsRow (w w' : World) (e : Ending) (l : List ByteArray) : Prop :=
  ∃ g cap, e = .returned (.slice (some ⟨g, 0, none⟩) l.length cap) ∧ w.heap.size ≤ g ∧ g < w'.heap.size ∧ ∀ j, j < l.length → w'.cell? ⟨g, j, none⟩ = some (.string (l.getD j ByteArray.empty))

theorem isRow_of {w w' : World} {v : Value} {l : List ByteArray} (h : w'.ownsRow (w.heap.size + 1) 9 1 v l.length (l.map Value.string)) (hl : l ≠ []) : IsRow w w' (.returned v) l := by
  have hlt := h.lt
  obtain ⟨_, ⟨_, h0⟩ | ⟨g, cap, cur, hv, hb, hh, hn, hm, hs, ht⟩⟩ := id h
  · exact absurd (List.eq_nil_of_length_eq_zero h0) hl
  · subst hv
    refine ⟨g, cap, rfl, by omega, (hlt g rfl).2, ?_⟩
    intro j hj
    rw [h.cellAt j (by omega), List.getElem?_map, List.getElem?_eq_getElem hj]
    simp [List.getElem?_eq_getElem hj]

set_option maxHeartbeats 400000 in
theorem zzdistinct_some (b off len cap : Nat) (ss : List ByteArray) (w : World) (h0 : 0 < len) (hlen : len ≤ 8192) (hz : ss.length = len) (hb : b < w.heap.size) (hm : ∀ s ∈ ss, s.size ≤ maxLen)
    (hc : ∀ j, j < len → w.cell? ⟨b, off + j, none⟩ = some (.string (ss.getD j ByteArray.empty))) :
    Calls Try.prog 12 #[.slice (some ⟨b, off, none⟩) len cap] w fun e w' => IsRow w w' e (Plain.ded ss) ∧ Below w.heap.size w w' := by
  go_enter Try.func12, Try.ntmps12
  go_wp2_with (go_at_call 15; refine (distinct_some b off len cap ss _ hlen hz hb hm hc).mono ?_; rintro e w1 ⟨v, rfl, hrow, hbel, hnil⟩)
  go_ret
  have e1 : A ss len = Plain.ded ss := by unfold A; rw [List.take_of_length_le (by omega)]
  rw [e1] at hrow
  refine ⟨isRow_of hrow ?_, hbel⟩
  intro e
  rw [(Plain.ded_eq_nil ss).1 e] at hz
  simp at hz
  omega

end Go.Proofs.Qxb6605420a
