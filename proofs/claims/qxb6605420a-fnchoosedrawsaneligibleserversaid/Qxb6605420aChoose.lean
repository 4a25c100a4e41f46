/-
  SEAT b6605420a: THE WALK OF client.choose (function 14; 10: ZZchoose): 'for s, p := range probabilities', in whatever order the map is ranged over, at every u.
-/
import Derived.Test.Qxb6605420aSets
import Derived.Maps.RangeWalk
import Derived.Laws.FloatArith
namespace Go.Proofs.Qxb6605420a
open Go.RowKit Go.Maps
open Go.WideMaps (keyOf_string_mk)
set_option linter.unusedVariables false

/-- HOW AN ELEMENT OF TYPE float64 READS. -/
def floatElem {H : Type} : Value → Option (DataW H × List MemPlace)
  | .float .f64 p => some (.lit (.float .f64 p), [])
  | _ => none
theorem floatElem_mk {H : Type} (p : Nat) : floatElem (H := H) (.float .f64 p) = some (.lit (.float .f64 p), []) := rfl
theorem floatElem_inv {H : Type} {v : Value} {z : DataW H × List MemPlace} (h : floatElem v = some z) : ∃ p, v = .float .f64 p ∧ z = (.lit (.float .f64 p), []) := by
  unfold floatElem at h
  split at h
  · simp at h; exact ⟨_, rfl, h.symm⟩
  · cases h

/-- 'p <= 0', as the model reckons it. -/
def le0 (p : Nat) : Bool := FloatKind.f64.format.order p 0 == some .lt || FloatKind.f64.format.order p 0 == some .eq
theorem le0_zero : le0 0 = true := by decide +kernel

/-- THE SERVER AT KEY kl IS ELIGIBLE: its probability is not <= 0. -/
def El {H : Type} (D : DataW H) (kl : Lit) : Prop := ∃ p, D.atKey kl (.lit (.float .f64 0)) = .lit (.float .f64 p) ∧ le0 p = false

theorem El.has {H : Type} {D : DataW H} {kl : Lit} (h : El D kl) : Maps.has D kl = true := by
  obtain ⟨p, h1, h2⟩ := h
  cases e : Maps.has D kl
  · rw [atKey_of_not_has e] at h1
    simp only [DataW.lit.injEq, Lit.float.injEq, true_and] at h1
    subst h1
    rw [le0_zero] at h2
    cases h2
  · rfl

/-- WHAT choose GIVES: an eligible server of the map; or the empty name, where none is eligible. -/
def Chose {H : Type} (D : DataW H) (s : ByteArray) : Prop := El D (.string s.data.toList) ∨ (s = ByteArray.empty ∧ ∀ kl, ¬ El D kl)

/-- On the way: the same, of what no longer is to come. -/
def Chosen {H : Type} (D : DataW H) (left : Lit → Bool) (s : ByteArray) : Prop := El D (.string s.data.toList) ∨ (s = ByteArray.empty ∧ ∀ kl, Maps.has D kl = true → left kl = false → ¬ El D kl)

theorem chosen_start {H : Type} (D : DataW H) : Chosen D (Maps.has D) ByteArray.empty := .inr ⟨rfl, fun kl h1 h2 => by rw [h1] at h2; cases h2⟩
theorem chosen_skip {H : Type} {D : DataW H} {left : Lit → Bool} {s : ByteArray} (h : Chosen D left s) {kl : Lit} {p : Nat} (hat : ∀ zd, D.atKey kl zd = .lit (.float .f64 p)) (hp : le0 p = true) : Chosen D (fun z => left z && !z.sameKey kl) s := by
  rcases h with h | ⟨h1, h2⟩
  · exact .inl h
  · refine .inr ⟨h1, fun k hk hl hE => ?_⟩
    cases e : left k
    · exact h2 k hk e hE
    · simp only [e, Bool.true_and, Bool.not_eq_false'] at hl
      obtain rfl := WideAt.sameKey_eq hl
      obtain ⟨q, hq1, hq2⟩ := hE
      rw [hat] at hq1
      simp only [DataW.lit.injEq, Lit.float.injEq, true_and] at hq1
      subst hq1
      rw [hp] at hq2
      cases hq2
theorem el_of {H : Type} {D : DataW H} {kl : Lit} {p : Nat} (hat : ∀ zd, D.atKey kl zd = .lit (.float .f64 p)) (hp : le0 p = false) : El D kl := ⟨p, hat _, hp⟩
theorem chosen_end {H : Type} {D : DataW H} {left : Lit → Bool} {s : ByteArray} (h : Chosen D left s) (hl : ∀ kl, left kl = false) : Chose D s := by
  rcases h with h | ⟨h1, h2⟩
  · exact .inl h
  · exact .inr ⟨h1, fun kl hE => h2 kl hE.has (hl kl) hE⟩

/-- 'u - p': SOME bits (where the difference is no number: those of the tape). -/
theorem run_fsub {P : Program} (w : World) (t : TypeId) (x y : Nat) : ∃ r w', (binOp .sub t (.float .f64 x) (.float .f64 y)).run P w = .ok (.float .f64 r) w' ∧ (w' = w ∨ w' = w.drew) := by
  cases h : FloatKind.f64.format.sub x y with
  | some r => exact ⟨r, w, run_float_arith w .sub t .f64 x y r h, .inl rfl⟩
  | none =>
    have e : (binOp .sub t (.float .f64 x) (.float .f64 y)).run P w = if (Question.nanBits .f64 x y).forced then .ok (.float .f64 0) w else .ok (.float .f64 ((Question.nanBits .f64 x y).cut (w.tape w.drawn (.nanBits .f64 x y)))) w.drew := by
      simp [binOp, Op.floatArith, h]
    by_cases hf : (Question.nanBits .f64 x y).forced = true
    · exact ⟨_, _, by rw [e, if_pos hf], .inl rfl⟩
    · exact ⟨_, _, by rw [e, if_neg hf], .inr rfl⟩

theorem wpList_fsub {P : Program} (w : World) {ops : Array Oper} {rest : List Oper} {o : Oper} {a : Act} {Q : Exit → Act → World → Prop}
    (hg : o.guard = none) (l r : Operand) (t t2 : TypeId) (hop : o.op = Op.binOp .sub t l r t2) (x y : Nat) (hl : a.eval l = .float .f64 x) (hr : a.eval r = .float .f64 y)
    (hK : ∀ z w', (w' = w ∨ w' = w.drew) → wpList P ops Q rest (a.put o.dst (.float .f64 z)) w') :
    wpList P ops Q (o :: rest) a w := by
  refine wpList_plain hg fun K' hK' => ?_
  obtain ⟨z, w', hrun, hw⟩ := run_fsub (P := P) w t x y
  unfold Oper.wp
  simp [execOp, eqGuard, hop, hl, hr, hrun, Result.andThen]
  exact hK' _ _ (hK z w' hw)

theorem keyOf_string_inv {key : Value} {kl : Lit} (h : keyOf Try.prog 9 key = some kl) : ∃ s, key = .string s := by
  obtain ⟨s, rfl, _⟩ := WideMaps.string_of_keyOf Try.underlying9 h
  exact ⟨s, rfl⟩
theorem keyOf_string_kl {s : ByteArray} {kl : Lit} (h : keyOf Try.prog 9 (.string s) = some kl) : kl = .string s.data.toList := by
  obtain ⟨s', e, rfl, _⟩ := WideMaps.string_of_keyOf Try.underlying9 h
  cases e
  rfl

theorem le0_yes {p : Nat} (h : (FloatKind.f64.format.order p 0 == some Ordering.lt) = true ∨ (FloatKind.f64.format.order p 0 == some Ordering.eq) = true) : le0 p = true := by
  unfold le0
  rcases h with h | h <;> simp only [h, Bool.true_or, Bool.or_true]
theorem le0_no {p : Nat} (h : (FloatKind.f64.format.order p 0 == some Ordering.lt) = false ∧ (FloatKind.f64.format.order p 0 == some Ordering.eq) = false) : le0 p = false := by
  unfold le0
  rw [h.1, h.2]; rfl
theorem ranges_drew {H : Type} {P : Program} {k : TypeId} {R : Value → Option (DataW H × List MemPlace)} {w w' : World} {b r n : Nat} {D : DataW H} {left : Lit → Bool} {cnt : Nat} (h : w.ranges P k R b r n D left cnt) (hw : w' = w ∨ w' = w.drew) : w'.ranges P k R b r n D left cnt := by
  rcases hw with rfl | rfl
  · exact h
  · exact h
theorem below_drew {B : Nat} {w0 w w' : World} (h : Below B w0 w) (hw : w' = w ∨ w' = w.drew) : Below B w0 w' := by
  rcases hw with rfl | rfl
  · exact h
  · exact h.drew

/-- THE STEP OF 'for s, p := range m', KEYS STRINGS, ELEMENTS FLOATS. -/
theorem wpList_next_sf {H : Type} (w : World) {ops : Array Oper} {rest : List Oper} {o : Oper} {a : Act} {Q : Exit → Act → World → Prop} (hg : o.guard = none) (it : Operand) (hop : o.op = Op.next it false)
    (b r n : Nat) (D : DataW H) (left : Lit → Bool) (cnt : Nat) (hit : a.eval it = .pointer (some ⟨r, 0, none⟩)) (h : w.ranges Try.prog 9 floatElem b r n D left cnt)
    (hDone : cnt = 0 → (∀ kl, left kl = false) → wpList Try.prog ops Q rest (a.put o.dst (.tuple #[.bool false])) w)
    (hMore : ∀ (t : ByteArray) (p : Nat) (w' : World) (cnt' : Nat), (∀ zd, D.atKey (.string t.data.toList) zd = .lit (.float .f64 p)) → w'.ranges Try.prog 9 floatElem b r n D (fun z => left z && !z.sameKey (.string t.data.toList)) cnt' → cnt' < cnt →
      w.grownBy w' (some r) → (Instr.entry (.pointer (some ⟨r, 0, none⟩))).run Try.prog w' = .ok (.tuple #[.string t, .float .f64 p]) w' → wpList Try.prog ops Q rest (a.put o.dst (.tuple #[.bool true, .string t, .float .f64 p])) w') :
    wpList Try.prog ops Q (o :: rest) a w :=
  wpList_next_ranges w hg it hop 9 law9 floatElem Value.string (Value.float .f64) (fun key kl h => keyOf_string_inv h) (fun v y h => (floatElem_inv h).elim fun p hp => ⟨p, hp.1⟩)
    b r n D left cnt hit h hDone (fun t p kl y w' cnt' hkey hlk hv hat hrg hlt hgr hsz hen => by
      obtain rfl := keyOf_string_kl hkey
      obtain ⟨p', ep, rfl⟩ := floatElem_inv hv
      cases ep
      exact hMore t p w' cnt' hat hrg hlt hgr hen)

set_option maxRecDepth 100000 in
set_option maxHeartbeats 800000 in
theorem choose_any (b n u : Nat) (D : DataW Unit) (w : World) (hown : w.ownsMap Try.prog 9 floatElem b n D) :
    Calls Try.prog 14 #[.map (some b), .float .f64 u] w fun e w' => ∃ s, e = .returned (.string s) ∧ Chose D s ∧ Below w.heap.size w w' := by
  have hbl := hown.lt
  go_enter Try.func14, Try.ntmps14
  go_wp2_with (first
    | (at_range; refine wpList_range_own _ rfl _ 29 rfl 9 24 law9 Try.underlying29 _ b n _ rfl hown ?_; intro w0 hrg0 hg0 hs0)
    | go_in)
  go_frame
  go_loopw [1, 5] (fun uv c wr => ∃ (left : Lit → Bool) (cnt : Nat) (x : Nat) (s : ByteArray), uv = .float .f64 x ∧ c = .string s ∧ wr.ranges Try.prog 9 floatElem b w.heap.size n D left cnt ∧ Chosen D left s ∧ Below w.heap.size w wr)
    (fun _ _ wr => wr.rangeLeft b w.heap.size)
  case atStart =>
    exact ⟨_, _, u, ByteArray.empty, rfl, rfl, hrg0, chosen_start D, (Below.refl _ _).grown hg0 (Nat.le_refl _) (fun j hj => by cases hj)⟩
  case round =>
    obtain ⟨left, cnt, x, s, rfl, rfl, hrg, hch, hnx⟩ := hrel
    go_wp2_with (first
      | (at_next; refine wpList_next_sf _ rfl _ rfl b w.heap.size n _ _ _ rfl hrg ?_ ?_)
      | go_in)
    · intro hc0 hl0
      go_wp2
      go_ret
      exact ⟨s, rfl, chosen_end hch hl0, hnx⟩
    · intro t p w1 cnt1 hat hrg1 hlt hg1 hen
      have hnx1 : Below w.heap.size w w1 := hnx.grown hg1 hnx.size (fun j hj => by cases hj; exact Nat.le_refl _)
      have HAT : Hid (∀ zd, D.atKey (.string t.data.toList) zd = .lit (.float .f64 p)) := hat
      clear hg1 hat
      go_wp2_with (first
        | (refine wpList_fsub _ rfl _ _ 24 24 rfl _ _ rfl rfl ?_; intro z w2 hw2; have hrg2 := ranges_drew hrg1 hw2; have hnx2 := below_drew hnx1 hw2; clear hw2)
        | go_in)
      · have hle : le0 p = true := le0_yes (by assumption)
        have hch1 := chosen_skip hch HAT.out hle
        go_roundw
        case rel => exact ⟨_, cnt1, x, s, rfl, rfl, hrg1, hch1, hnx1⟩
        case measure => rw [hrg1.left_eq, hrg.left_eq]; exact hlt
      · have hle : le0 p = false := le0_no (by assumption)
        have hE := el_of HAT.out hle
        go_ret
        exact ⟨t, rfl, .inl hE, hnx1⟩
      · have hle : le0 p = false := le0_no (by assumption)
        have hE := el_of HAT.out hle
        go_roundw
        case rel => exact ⟨_, cnt1, z, t, rfl, rfl, hrg2, .inl hE, hnx2⟩
        case measure => rw [hrg2.left_eq, hrg.left_eq]; exact hlt

/-- 10: ZZchoose. -/
theorem zzchoose_any (b n u : Nat) (D : DataW Unit) (w : World) (hown : w.ownsMap Try.prog 9 floatElem b n D) :
    Calls Try.prog 10 #[.map (some b), .float .f64 u] w fun e w' => ∃ s, e = .returned (.string s) ∧ Chose D s ∧ Below w.heap.size w w' := by
  go_enter Try.func10, Try.ntmps10
  go_wp2_with (go_at_call 14; refine (choose_any b n u D _ hown).mono ?_; rintro e w1 ⟨s, rfl, hc, hb⟩)
  go_ret
  exact ⟨s, rfl, hc, hb⟩

end Go.Proofs.Qxb6605420a
