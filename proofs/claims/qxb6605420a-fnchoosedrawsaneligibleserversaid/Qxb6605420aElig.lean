/-
  SEAT b6605420a: THE WALK OF FnChooseDrawsAnEligibleServer (function 3).
-/
import Derived.Test.Qxb6605420aChoose
import Derived.Test.Qxb6605420aFloats
import Derived.WalkSmall
namespace Go.Proofs.Qxb6605420a
open Go.RowKit Go.Maps
open Go.WideMaps (keyOf_string_mk)
set_option linter.unusedVariables false

theorem zero24 (w : World) : (zeroValue 24).run Try.prog w = .ok (.float .f64 0) w := by kernel_rfl

/-- 'm[k]' AT FLOATS. -/
theorem wpList_lookup_f {H : Type} (w : World) {ops : Array Oper} {rest : List Oper} {o : Oper} {a : Act} {Q : Exit → Act → World → Prop}
    (hg : o.guard = none) (m x : Operand) (hop : o.op = Op.lookup 29 m x false) (b n : Nat) (D : DataW H)
    (hm : a.eval m = .map (some b)) (hown : w.ownsMap Try.prog 9 floatElem b n D) (key : Value) (kl : Lit) (hx : a.eval x = key) (hkey : keyOf Try.prog 9 key = some kl)
    (hK : ∀ p, D.atKey kl (.lit (.float .f64 0)) = .lit (.float .f64 p) → wpList Try.prog ops Q rest (a.put o.dst (.float .f64 p)) w) :
    wpList Try.prog ops Q (o :: rest) a w := by
  refine wpList_plain hg fun K' hK' => ?_
  obtain ⟨v, ps, hrun, hv⟩ := hown.lookup law9 Try.underlying29 (zero24 w) (floatElem_mk 0) hkey
  obtain ⟨p, rfl, hc⟩ := floatElem_inv hv
  have hc1 : D.atKey kl (.lit (.float .f64 0)) = .lit (.float .f64 p) := congrArg Prod.fst hc
  unfold Oper.wp
  simp [execOp, hop, hm, hx, hrun, Result.andThen]
  exact hK' _ _ (hK p hc1)

/-- 'p, ok := m[k]' AT FLOATS. -/
theorem wpList_lookup_f_ok {H : Type} (w : World) {ops : Array Oper} {rest : List Oper} {o : Oper} {a : Act} {Q : Exit → Act → World → Prop}
    (hg : o.guard = none) (m x : Operand) (hop : o.op = Op.lookup 29 m x true) (b n : Nat) (D : DataW H)
    (hm : a.eval m = .map (some b)) (hown : w.ownsMap Try.prog 9 floatElem b n D) (key : Value) (kl : Lit) (hx : a.eval x = key) (hkey : keyOf Try.prog 9 key = some kl)
    (hK : ∀ p, D.atKey kl (.lit (.float .f64 0)) = .lit (.float .f64 p) → wpList Try.prog ops Q rest (a.put o.dst (.tuple #[.float .f64 p, .bool (Maps.has D kl)])) w) :
    wpList Try.prog ops Q (o :: rest) a w :=
  wpList_lookup_own_ok w hg m x 29 hop 9 24 law9 Try.underlying29 floatElem (zero24 w) (.lit (.float .f64 0)) [] (floatElem_mk 0) b n D hm hown key kl hx hkey (fun v ps hv => by
    obtain ⟨p, rfl, hc⟩ := floatElem_inv hv
    exact hK p (congrArg Prod.fst hc))

theorem ownsMap_below {H : Type} {P : Program} {k : TypeId} {R : Value → Option (DataW H × List MemPlace)} {w w' : World} {b n B : Nat} {D : DataW H} (h : w.ownsMap P k R b n D) (hb : Below B w w') (hB : b < B) : w'.ownsMap P k R b n D := by
  obtain ⟨es, clock, h1, r⟩ := h
  exact ⟨es, clock, (hb.block b hB).trans h1, r⟩

/-- THE MAP's KEYS ARE JUST THE STRINGS OF l. -/
def KeysIs {H : Type} (D : DataW H) (l : List ByteArray) : Prop := ∀ s : ByteArray, Maps.has D (.string s.data.toList) = true ↔ s ∈ l
theorem keysIs_empty {H : Type} : KeysIs (.map [] : DataW H) [] := fun s => by simp [Maps.has]
theorem KeysIs.put {H : Type} {D : DataW H} (hD : IsMap D) {l : List ByteArray} (h : KeysIs D l) (x : ByteArray) (d : DataW H) : KeysIs (D.put (.string x.data.toList) d) (l ++ [x]) := fun s => by
  by_cases e : s = x
  · subst e; simp [has_put_same hD (k := .string s.data.toList) trivial]
  · rw [has_put_other (kl_ne e), h s]; simp [e]

/-- WHAT THE COUNT OF THE ELIGIBLE, AND THE LAST ONE SEEN, SAY OF THE STRINGS l. -/
structure Tally {H : Type} (D : DataW H) (l : List ByteArray) (cnt : Nat) (s : ByteArray) : Prop where
  none : cnt = 0 → ∀ t ∈ l, ¬ El D (.string t.data.toList)
  one : cnt = 1 → ∀ t ∈ l, El D (.string t.data.toList) → t = s
  some : 1 ≤ cnt → ∃ t ∈ l, El D (.string t.data.toList)
theorem tally_start {H : Type} (D : DataW H) (s : ByteArray) : Tally D [] 0 s := ⟨fun _ t h => (by simp at h), fun h => absurd h (by decide), fun h => absurd h (by decide)⟩
theorem Tally.old {H : Type} {D : DataW H} {l : List ByteArray} {cnt : Nat} {s x : ByteArray} (h : Tally D l cnt s) (hx : x ∈ l) : Tally D (l ++ [x]) cnt s := by
  have e : ∀ t, t ∈ l ++ [x] ↔ t ∈ l := fun t => by
    simp only [List.mem_append, List.mem_singleton]
    exact ⟨fun h => h.elim id (fun h => h ▸ hx), .inl⟩
  exact ⟨fun h0 t ht => h.none h0 t ((e t).1 ht), fun h1 t ht => h.one h1 t ((e t).1 ht), fun h2 => (h.some h2).elim fun t ht => ⟨t, (e t).2 ht.1, ht.2⟩⟩
theorem Tally.no {H : Type} {D : DataW H} {l : List ByteArray} {cnt : Nat} {s x : ByteArray} (h : Tally D l cnt s) (hx : ¬ El D (.string x.data.toList)) : Tally D (l ++ [x]) cnt s := by
  refine ⟨fun h0 t ht => ?_, fun h1 t ht hE => ?_, fun h2 => (h.some h2).elim fun t ht => ⟨t, List.mem_append_left _ ht.1, ht.2⟩⟩
  · rcases List.mem_append.1 ht with ht | ht
    · exact h.none h0 t ht
    · simp at ht; subst ht; exact hx
  · rcases List.mem_append.1 ht with ht | ht
    · exact h.one h1 t ht hE
    · simp at ht; subst ht; exact absurd hE hx
theorem Tally.yes {H : Type} {D : DataW H} {l : List ByteArray} {cnt : Nat} {s x : ByteArray} (h : Tally D l cnt s) (hx : El D (.string x.data.toList)) : Tally D (l ++ [x]) (cnt + 1) x := by
  refine ⟨fun h0 => by omega, fun h1 t ht hE => ?_, fun _ => ⟨x, by simp, hx⟩⟩
  rcases List.mem_append.1 ht with ht | ht
  · exact absurd hE (h.none (by omega) t ht)
  · simpa using ht

theorem not_el {H : Type} {D : DataW H} {kl : Lit} {p : Nat} (hat : D.atKey kl (.lit (.float .f64 0)) = .lit (.float .f64 p)) (hp : le0 p = true) : ¬ El D kl := by
  rintro ⟨q, h1, h2⟩
  rw [hat] at h1
  simp only [DataW.lit.injEq, Lit.float.injEq, true_and] at h1
  subst h1
  rw [hp] at h2
  cases h2
theorem el_bits {H : Type} {D : DataW H} {kl : Lit} {p : Nat} (hE : El D kl) (hat : D.atKey kl (.lit (.float .f64 0)) = .lit (.float .f64 p)) :
    (FloatKind.f64.format.order p 0 == some Ordering.lt) = false ∧ (FloatKind.f64.format.order p 0 == some Ordering.eq) = false := by
  obtain ⟨q, h1, h2⟩ := hE
  rw [hat] at h1
  simp only [DataW.lit.injEq, Lit.float.injEq, true_and] at h1
  subst h1
  unfold le0 at h2
  simpa using h2

theorem le0_not {p : Nat} (h : (!FloatKind.f64.format.order p 0 == some Ordering.lt) = true ∧ (!FloatKind.f64.format.order p 0 == some Ordering.eq) = true) : le0 p = false :=
  le0_no ⟨by simpa using h.1, by simpa using h.2⟩
theorem le0_yet {p : Nat} (h : (!FloatKind.f64.format.order p 0 == some Ordering.lt) = false ∨ (!FloatKind.f64.format.order p 0 == some Ordering.eq) = false) : le0 p = true :=
  le0_yes (h.elim (fun h => .inl (by simpa using h)) (fun h => .inr (by simpa using h)))

/-- The clones, their lengths by a letter. -/
theorem clone_len {w : World} {a : Option Addr} {len : Nat} {ss : List ByteArray} (h : IsStrs w a len ss) (cap : Nat) (hnil : a = none → len = 0 ∧ cap = 0) (h4 : len ≤ 4096) :
    Calls Try.prog 8 #[.slice a len cap] w fun e w' => (∃ a' c', e = .returned (.slice a' len c') ∧ IsStrs w' a' len ss) ∧ Below w.heap.size w w' := by
  refine (clone_any h cap hnil h4).mono ?_
  rintro e w' ⟨⟨a', c', rfl, h1, _⟩, hb⟩
  rw [h.length] at h1 ⊢
  exact ⟨⟨a', c', rfl, h1⟩, hb⟩
theorem clonef_len {w : World} {a : Option Addr} {len : Nat} {ss : List Nat} (h : IsFlts w a len ss) (cap : Nat) (hnil : a = none → len = 0 ∧ cap = 0) (h4 : len ≤ 4096) :
    Calls Try.prog 9 #[.slice a len cap] w fun e w' => (∃ a' c', e = .returned (.slice a' len c') ∧ IsFlts w' a' len ss) ∧ Below w.heap.size w w' := by
  refine (clonef_any h cap hnil h4).mono ?_
  rintro e w' ⟨⟨a', c', rfl, h1, _⟩, hb⟩
  rw [h.length] at h1 ⊢
  exact ⟨⟨a', c', rfl, h1⟩, hb⟩

set_option maxHeartbeats 400000 in
theorem elig_big (a b : Option Addr) (la lb ca cb u : Nat) (sa : List ByteArray) (fb : List Nat) (w : World) (ha : IsStrs w a la sa) (hb : IsFlts w b lb fb) (hbig : 4096 < la ∨ 4096 < lb) :
    Calls Try.prog 3 #[.slice a la ca, .slice b lb cb, .float .f64 u] w fun e w' => e = .returned (.bool true) ∧ Below w.heap.size w w' := by
  by_cases h1 : 4096 < la
  · go_enter Try.func3, Try.ntmps3
    go_wp2_with (go_at_call 6; refine (guard6_any ha hb ca cb u).mono ?_; rintro e w' ⟨⟨r, rfl⟩, hw⟩; subst hw; cases r)
    all_goals
      go_ret
      exact ⟨rfl, Below.refl _ _⟩
  · have h2 : 4096 < lb := by omega
    go_enter Try.func3, Try.ntmps3
    go_wp2_with (go_at_call 6; refine (guard6_any ha hb ca cb u).mono ?_; rintro e w' ⟨⟨r, rfl⟩, hw⟩; subst hw; cases r)
    all_goals
      go_ret
      exact ⟨rfl, Below.refl _ _⟩

set_option maxRecDepth 100000 in
set_option maxHeartbeats 1000000 in
theorem elig_lt (a b : Option Addr) (la lb ca cb u : Nat) (sa : List ByteArray) (fb : List Nat) (w : World) (ha : IsStrs w a la sa) (hb : IsFlts w b lb fb) (na : a = none → la = 0 ∧ ca = 0) (nb : b = none → lb = 0 ∧ cb = 0) (h4 : la ≤ 4096) (h5 : lb ≤ 4096) (hcase : lb < la) :
    Calls Try.prog 3 #[.slice a la ca, .slice b lb cb, .float .f64 u] w fun e w' => e = .returned (.bool true) ∧ Below w.heap.size w w' := by
  have hm1 := fun (w : World) (n : Int) => run_makeMap_hint (P := Try.prog) 29 9 24 Try.underlying29 .i64 n w
  have hm2 := fun (w : World) (n : Int) => run_makeMap_hint (P := Try.prog) 30 9 4 Try.underlying30 .i64 n w
  go_enter Try.func3, Try.ntmps3
  go_wp2_with (first
    | (go_at_call 6; refine (guard6_any ha hb ca cb u).mono ?_; rintro e w' ⟨⟨r, rfl⟩, hw⟩; subst hw; cases r)
    | (go_at_call 7; refine (bytes_any ha h4 ca).mono ?_; rintro e w' ⟨⟨r1, rfl⟩, hw⟩; subst hw)
    | (go_at_call 8; refine (clone_len ha ca na h4).mono ?_; rintro e w1 ⟨⟨a1, c1, rfl, ha1⟩, hb1⟩)
    | (go_at_call 9; refine (clonef_len (hb.kept hb1) cb nb h5).mono ?_; rintro e w2 ⟨⟨a2, c2, rfl, ha2⟩, hb2⟩))
  · go_ret
    exact ⟨rfl, Below.refl _ _⟩
  · go_ret
    exact ⟨rfl, Below.refl _ _⟩
  have hbw2 : Below w.heap.size w w2 := hb1.trans (hb2.mono hb1.size)
  obtain ⟨b1, o1, i1, x1⟩ := (ha1.kept hb2).index c1
  obtain ⟨b2, o2, i2, x2⟩ := ha2.index c2
  have hf := ha.fits
  have hla := ha.length
  have HLA := (show Hid _ from hla)
  have HX1 := (show Hid _ from x1)
  have HX2 := (show Hid _ from x2)
  clear hla x1 x2 ha1 ha2 hb1 hb2 ha hb na nb
  -- LOOP 1: the map is filled
  go_loopw [9] (fun i wr => ∃ (k : Nat) (D : DataW Unit), k ≤ lb ∧ i = .int .i64 k ∧ wr.ownsMap Try.prog 9 floatElem w2.heap.size k D ∧ KeysIs D (sa.take k) ∧ Below w2.heap.size w2 wr) (fun i _ => lb - (intOf i).toNat)
  case atStart => exact ⟨0, _, Nat.zero_le _, rfl, World.ownsMap_made _ _ _ _, (by rw [List.take_zero]; exact keysIs_empty), (Below.refl _ _).alloc (Nat.le_refl _) _⟩
  case round =>
    obtain ⟨k, D, hk, rfl, hown, hkeys, hnx⟩ := hrel
    by_cases hlt : k < lb
    · have hka : k < la := by omega
      have hkb : k < lb := by omega
      have hc1 := HX1.out wr hnx k hka
      have hc2 := HX2.out wr hnx k hkb
      have f1 := fun wx => i1 k wx hka
      have f2 := fun wx => i2 k wx hkb
      have hkey : keyOf Try.prog 9 (.string (sa.getD k ByteArray.empty)) = some (.string (sa.getD k ByteArray.empty).data.toList) := keyOf_string_mk Try.underlying9 (fits_at hf k)
      have hts := Plain.take_snoc sa k ByteArray.empty (by rw [HLA.out]; exact hka)
      obtain ⟨s, hs⟩ : ∃ s, s = sa.getD k ByteArray.empty := ⟨_, rfl⟩
      obtain ⟨p, hp⟩ : ∃ p, p = fb.getD k 0 := ⟨_, rfl⟩
      rw [← hs] at hc1 hkey hts
      rw [← hp] at hc2
      clear hs hp
      have HT : Hid (sa.take (k + 1) = sa.take k ++ [s]) := hts
      clear hts
      obtain ⟨w8, hrun, hown8, hgrow8⟩ := (hown.drew).update law9 Try.underlying29 (by unfold maxLen; omega) hkey (floatElem_mk p)
      go_wp2
      go_region
      go_wp2
      have hk1 := hkeys.put hown.isMap s (.lit (.float .f64 p))
      go_roundw
      case rel => exact ⟨k + 1, _, by omega, by go_num, hown8, (by rw [HT.out]; exact hk1), hnx.drew.grown hgrow8 hnx.size (fun j hj => by cases hj; exact Nat.le_refl _)⟩
      case measure => simp [intOf]; omega
    · have hkn : k = lb := by omega
      subst hkn
      obtain ⟨wq, rfl⟩ : ∃ wq : World, wq = wr := ⟨_, rfl⟩
      have hBq : w2.heap.size < wq.heap.size := hown.lt
      clear i2 HX2
      go_wp2
      -- LOOP 2: the eligible are counted
      go_loopw [11, 12, 13] (fun e o i wr => ∃ (m cnt : Nat) (s : ByteArray) (D2 : DataW Unit), m ≤ k ∧ i = .int .i64 m ∧ e = .int .i64 cnt ∧ cnt ≤ m ∧ o = .string s ∧
          wr.ownsMap Try.prog 9 (plainElem Try.prog 4) wq.heap.size m D2 ∧ SetIs D2 (sa.take m) ∧ Tally D (sa.take m) cnt s ∧ Below wq.heap.size wq wr) (fun _ _ i _ => k - (intOf i).toNat)
      case atStart => exact ⟨0, 0, _, _, Nat.zero_le _, rfl, rfl, Nat.le_refl _, rfl, World.ownsMap_made _ _ _ _, (by rw [List.take_zero]; exact setIs_empty), (by rw [List.take_zero]; exact tally_start _ _), (Below.refl _ _).alloc (Nat.le_refl _) _⟩
      case round =>
        obtain ⟨m, cnt, s0, D2, hm, rfl, rfl, hcm, rfl, hown2, hset2, htal, hnx2⟩ := hrel
        have hown3 := ownsMap_below hown hnx2 hBq
        by_cases hml : m < k
        · have hma : m < la := by omega
          have hc1 := HX1.out wr (hnx.trans (hnx2.mono hnx.size)) m hma
          have f1 := fun wx => i1 m wx hma
          have hkey : keyOf Try.prog 9 (.string (sa.getD m ByteArray.empty)) = some (.string (sa.getD m ByteArray.empty).data.toList) := keyOf_string_mk Try.underlying9 (fits_at hf m)
          have hts := Plain.take_snoc sa m ByteArray.empty (by rw [HLA.out]; exact hma)
          obtain ⟨s, hs⟩ : ∃ s, s = sa.getD m ByteArray.empty := ⟨_, rfl⟩
          rw [← hs] at hc1 hkey hts
          clear hs
          have HT : Hid (sa.take (m + 1) = sa.take m ++ [s]) := hts
          clear hts
          have hall := hset2.1
          go_wp2_with (first
            | (at_lookup; refine wpList_lookup_set _ rfl _ _ 30 rfl 9 4 law9 Try.underlying30 Try.underlying4 (zero4 _) wq.heap.size m _ rfl hown2 hall _ _ rfl hkey ?_)
            | (at_mapUpdate; refine wpList_mapUpdate_own _ rfl _ _ _ 30 rfl 9 4 law9 Try.underlying30 (plainElem (H := Unit) Try.prog 4) wq.heap.size m _ rfl hown2 (by unfold maxLen; omega) _ _ _ rfl rfl hkey _ [] (plainElem_bool Try.underlying4 true) ?_; intro w8 hown8 hgrow8; have hown9 := hown3.kept hgrow8 (fun e => by have := Option.some.inj e; omega))
            | (at_lookup; refine wpList_lookup_f _ rfl _ _ rfl w2.heap.size k _ rfl hown9 _ _ rfl hkey ?_; intro p hat)
            | go_in)
          · have hmem : s ∈ sa.take m := (hset2.2 s).1 (by assumption)
            go_roundw
            case rel => exact ⟨m + 1, cnt, s0, D2, by omega, by go_num, rfl, by omega, rfl, hown2.mono (Nat.le_succ _), (by rw [HT.out]; exact hset2.old hmem), (by rw [HT.out]; exact htal.old hmem), hnx2⟩
            case measure => simp [intOf]; omega
          · have hE : El D (.string s.data.toList) := ⟨p, hat, le0_not (by assumption)⟩
            have hset3 := hset2.put hown2.isMap s
            go_roundw
            case rel => exact ⟨m + 1, cnt + 1, s, _, by omega, by go_num, by go_num, by omega, rfl, hown8, (by rw [HT.out]; exact hset3), (by rw [HT.out]; exact htal.yes hE), hnx2.grown hgrow8 hnx2.size (fun j hj => by cases hj; exact Nat.le_refl _)⟩
            case measure => simp [intOf]; omega
          · have hE : ¬ El D (.string s.data.toList) := not_el hat (le0_yet (by assumption))
            have hset3 := hset2.put hown2.isMap s
            go_roundw
            case rel => exact ⟨m + 1, cnt, s0, _, by omega, by go_num, rfl, by omega, rfl, hown8, (by rw [HT.out]; exact hset3), (by rw [HT.out]; exact htal.no hE), hnx2.grown hgrow8 hnx2.size (fun j hj => by cases hj; exact Nat.le_refl _)⟩
            case measure => simp [intOf]; omega
        · have hmk : m = k := by omega
          subst hmk
          have hbw3 : Below w.heap.size w wr := hbw2.trans ((hnx.trans (hnx2.mono hnx.size)).mono hbw2.size)
          clear hown2 hset2 i1 HX1
          go_wp2_with fail
          refine (zzchoose_any w2.heap.size m u D _ hown3).mono ?_
          rintro e w9 ⟨got, rfl, hgot, hb9⟩
          have hown4 := ownsMap_below hown3 hb9 hown3.lt
          have hbw4 : Below w.heap.size w w9 := hbw3.trans (hb9.mono hbw3.size)
          clear hown3 hown hb9 hbw3 hnx2 hnx hbw2
          by_cases hc0 : cnt = 0
          · obtain rfl : got = ByteArray.empty := by
              rcases hgot with hE | h
              · exact absurd hE (htal.none hc0 got ((hkeys got).1 hE.has))
              · exact h.1
            subst hc0
            clear hgot htal
            go_wp2
            go_ret
            exact ⟨rfl, hbw4⟩
          · have hE : El D (.string got.data.toList) := by
              rcases hgot with hE | h
              · exact hE
              · obtain ⟨t, _, ht⟩ := htal.some (by omega)
                exact absurd ht (h.2 _)
            have hcb : ((cnt : Int) == 0) = false := beq_eq_false_iff_ne.2 (by omega)
            have hhas := hE.has
            have hmem := (hkeys got).1 hhas
            have hkey : keyOf Try.prog 9 (.string got) = some (.string got.data.toList) := keyOf_string_mk Try.underlying9 (hf got (List.mem_of_mem_take hmem))
            by_cases hc1 : cnt = 1
            · have hgs := htal.one hc1 got hmem hE
              subst hgs
              subst hc1
              clear hgot htal hmem
              go_wp2_with (first
                | (at_lookup; refine wpList_lookup_f_ok _ rfl _ _ rfl w2.heap.size m _ rfl hown4 _ _ rfl hkey ?_; intro p hat; obtain ⟨hp1, hp2⟩ := el_bits hE hat; clear hat)
                | go_in)
              go_ret
              exact ⟨by simp, hbw4⟩
            · have hcb2 : ((cnt : Int) == 1) = false := beq_eq_false_iff_ne.2 (by omega)
              clear hgot htal hmem
              go_wp2_with (first
                | (at_lookup; refine wpList_lookup_f_ok _ rfl _ _ rfl w2.heap.size m _ rfl hown4 _ _ rfl hkey ?_; intro p hat; obtain ⟨hp1, hp2⟩ := el_bits hE hat; clear hat)
                | go_in)
              go_ret
              exact ⟨rfl, hbw4⟩

set_option maxRecDepth 100000 in
set_option maxHeartbeats 1000000 in
theorem elig_ge (a b : Option Addr) (la lb ca cb u : Nat) (sa : List ByteArray) (fb : List Nat) (w : World) (ha : IsStrs w a la sa) (hb : IsFlts w b lb fb) (na : a = none → la = 0 ∧ ca = 0) (nb : b = none → lb = 0 ∧ cb = 0) (h4 : la ≤ 4096) (h5 : lb ≤ 4096) (hcase : la ≤ lb) :
    Calls Try.prog 3 #[.slice a la ca, .slice b lb cb, .float .f64 u] w fun e w' => e = .returned (.bool true) ∧ Below w.heap.size w w' := by
  have hm1 := fun (w : World) (n : Int) => run_makeMap_hint (P := Try.prog) 29 9 24 Try.underlying29 .i64 n w
  have hm2 := fun (w : World) (n : Int) => run_makeMap_hint (P := Try.prog) 30 9 4 Try.underlying30 .i64 n w
  have hcb0 : decide ((lb : Int) < (la : Int)) = false := decide_eq_false (by omega)
  have hcb1 : decide (lb < la) = false := decide_eq_false (by omega)
  go_enter Try.func3, Try.ntmps3
  go_wp2_with (first
    | (go_at_call 6; refine (guard6_any ha hb ca cb u).mono ?_; rintro e w' ⟨⟨r, rfl⟩, hw⟩; subst hw; cases r)
    | (go_at_call 7; refine (bytes_any ha h4 ca).mono ?_; rintro e w' ⟨⟨r1, rfl⟩, hw⟩; subst hw)
    | (go_at_call 8; refine (clone_len ha ca na h4).mono ?_; rintro e w1 ⟨⟨a1, c1, rfl, ha1⟩, hb1⟩)
    | (go_at_call 9; refine (clonef_len (hb.kept hb1) cb nb h5).mono ?_; rintro e w2 ⟨⟨a2, c2, rfl, ha2⟩, hb2⟩))
  · go_ret
    exact ⟨rfl, Below.refl _ _⟩
  · go_ret
    exact ⟨rfl, Below.refl _ _⟩
  have hbw2 : Below w.heap.size w w2 := hb1.trans (hb2.mono hb1.size)
  obtain ⟨b1, o1, i1, x1⟩ := (ha1.kept hb2).index c1
  obtain ⟨b2, o2, i2, x2⟩ := ha2.index c2
  have hf := ha.fits
  have hla := ha.length
  have HLA := (show Hid _ from hla)
  have HX1 := (show Hid _ from x1)
  have HX2 := (show Hid _ from x2)
  clear hla x1 x2 ha1 ha2 hb1 hb2 ha hb na nb
  -- LOOP 1: the map is filled
  go_loopw [9] (fun i wr => ∃ (k : Nat) (D : DataW Unit), k ≤ la ∧ i = .int .i64 k ∧ wr.ownsMap Try.prog 9 floatElem w2.heap.size k D ∧ KeysIs D (sa.take k) ∧ Below w2.heap.size w2 wr) (fun i _ => la - (intOf i).toNat)
  case atStart => exact ⟨0, _, Nat.zero_le _, rfl, World.ownsMap_made _ _ _ _, (by rw [List.take_zero]; exact keysIs_empty), (Below.refl _ _).alloc (Nat.le_refl _) _⟩
  case round =>
    obtain ⟨k, D, hk, rfl, hown, hkeys, hnx⟩ := hrel
    by_cases hlt : k < la
    · have hka : k < la := by omega
      have hkb : k < lb := by omega
      have hc1 := HX1.out wr hnx k hka
      have hc2 := HX2.out wr hnx k hkb
      have f1 := fun wx => i1 k wx hka
      have f2 := fun wx => i2 k wx hkb
      have hkey : keyOf Try.prog 9 (.string (sa.getD k ByteArray.empty)) = some (.string (sa.getD k ByteArray.empty).data.toList) := keyOf_string_mk Try.underlying9 (fits_at hf k)
      have hts := Plain.take_snoc sa k ByteArray.empty (by rw [HLA.out]; exact hka)
      obtain ⟨s, hs⟩ : ∃ s, s = sa.getD k ByteArray.empty := ⟨_, rfl⟩
      obtain ⟨p, hp⟩ : ∃ p, p = fb.getD k 0 := ⟨_, rfl⟩
      rw [← hs] at hc1 hkey hts
      rw [← hp] at hc2
      clear hs hp
      have HT : Hid (sa.take (k + 1) = sa.take k ++ [s]) := hts
      clear hts
      obtain ⟨w8, hrun, hown8, hgrow8⟩ := (hown.drew).update law9 Try.underlying29 (by unfold maxLen; omega) hkey (floatElem_mk p)
      go_wp2
      go_region
      go_wp2
      have hk1 := hkeys.put hown.isMap s (.lit (.float .f64 p))
      go_roundw
      case rel => exact ⟨k + 1, _, by omega, by go_num, hown8, (by rw [HT.out]; exact hk1), hnx.drew.grown hgrow8 hnx.size (fun j hj => by cases hj; exact Nat.le_refl _)⟩
      case measure => simp [intOf]; omega
    · have hkn : k = la := by omega
      subst hkn
      obtain ⟨wq, rfl⟩ : ∃ wq : World, wq = wr := ⟨_, rfl⟩
      have hBq : w2.heap.size < wq.heap.size := hown.lt
      clear i2 HX2
      go_wp2
      -- LOOP 2: the eligible are counted
      go_loopw [11, 12, 13] (fun e o i wr => ∃ (m cnt : Nat) (s : ByteArray) (D2 : DataW Unit), m ≤ k ∧ i = .int .i64 m ∧ e = .int .i64 cnt ∧ cnt ≤ m ∧ o = .string s ∧
          wr.ownsMap Try.prog 9 (plainElem Try.prog 4) wq.heap.size m D2 ∧ SetIs D2 (sa.take m) ∧ Tally D (sa.take m) cnt s ∧ Below wq.heap.size wq wr) (fun _ _ i _ => k - (intOf i).toNat)
      case atStart => exact ⟨0, 0, _, _, Nat.zero_le _, rfl, rfl, Nat.le_refl _, rfl, World.ownsMap_made _ _ _ _, (by rw [List.take_zero]; exact setIs_empty), (by rw [List.take_zero]; exact tally_start _ _), (Below.refl _ _).alloc (Nat.le_refl _) _⟩
      case round =>
        obtain ⟨m, cnt, s0, D2, hm, rfl, rfl, hcm, rfl, hown2, hset2, htal, hnx2⟩ := hrel
        have hown3 := ownsMap_below hown hnx2 hBq
        by_cases hml : m < k
        · have hma : m < k := by omega
          have hc1 := HX1.out wr (hnx.trans (hnx2.mono hnx.size)) m hma
          have f1 := fun wx => i1 m wx hma
          have hkey : keyOf Try.prog 9 (.string (sa.getD m ByteArray.empty)) = some (.string (sa.getD m ByteArray.empty).data.toList) := keyOf_string_mk Try.underlying9 (fits_at hf m)
          have hts := Plain.take_snoc sa m ByteArray.empty (by rw [HLA.out]; exact hma)
          obtain ⟨s, hs⟩ : ∃ s, s = sa.getD m ByteArray.empty := ⟨_, rfl⟩
          rw [← hs] at hc1 hkey hts
          clear hs
          have HT : Hid (sa.take (m + 1) = sa.take m ++ [s]) := hts
          clear hts
          have hall := hset2.1
          go_wp2_with (first
            | (at_lookup; refine wpList_lookup_set _ rfl _ _ 30 rfl 9 4 law9 Try.underlying30 Try.underlying4 (zero4 _) wq.heap.size m _ rfl hown2 hall _ _ rfl hkey ?_)
            | (at_mapUpdate; refine wpList_mapUpdate_own _ rfl _ _ _ 30 rfl 9 4 law9 Try.underlying30 (plainElem (H := Unit) Try.prog 4) wq.heap.size m _ rfl hown2 (by unfold maxLen; omega) _ _ _ rfl rfl hkey _ [] (plainElem_bool Try.underlying4 true) ?_; intro w8 hown8 hgrow8; have hown9 := hown3.kept hgrow8 (fun e => by have := Option.some.inj e; omega))
            | (at_lookup; refine wpList_lookup_f _ rfl _ _ rfl w2.heap.size k _ rfl hown9 _ _ rfl hkey ?_; intro p hat)
            | go_in)
          · have hmem : s ∈ sa.take m := (hset2.2 s).1 (by assumption)
            go_roundw
            case rel => exact ⟨m + 1, cnt, s0, D2, by omega, by go_num, rfl, by omega, rfl, hown2.mono (Nat.le_succ _), (by rw [HT.out]; exact hset2.old hmem), (by rw [HT.out]; exact htal.old hmem), hnx2⟩
            case measure => simp [intOf]; omega
          · have hE : El D (.string s.data.toList) := ⟨p, hat, le0_not (by assumption)⟩
            have hset3 := hset2.put hown2.isMap s
            go_roundw
            case rel => exact ⟨m + 1, cnt + 1, s, _, by omega, by go_num, by go_num, by omega, rfl, hown8, (by rw [HT.out]; exact hset3), (by rw [HT.out]; exact htal.yes hE), hnx2.grown hgrow8 hnx2.size (fun j hj => by cases hj; exact Nat.le_refl _)⟩
            case measure => simp [intOf]; omega
          · have hE : ¬ El D (.string s.data.toList) := not_el hat (le0_yet (by assumption))
            have hset3 := hset2.put hown2.isMap s
            go_roundw
            case rel => exact ⟨m + 1, cnt, s0, _, by omega, by go_num, rfl, by omega, rfl, hown8, (by rw [HT.out]; exact hset3), (by rw [HT.out]; exact htal.no hE), hnx2.grown hgrow8 hnx2.size (fun j hj => by cases hj; exact Nat.le_refl _)⟩
            case measure => simp [intOf]; omega
        · have hmk : m = k := by omega
          subst hmk
          have hbw3 : Below w.heap.size w wr := hbw2.trans ((hnx.trans (hnx2.mono hnx.size)).mono hbw2.size)
          clear hown2 hset2 i1 HX1
          go_wp2_with fail
          refine (zzchoose_any w2.heap.size m u D _ hown3).mono ?_
          rintro e w9 ⟨got, rfl, hgot, hb9⟩
          have hown4 := ownsMap_below hown3 hb9 hown3.lt
          have hbw4 : Below w.heap.size w w9 := hbw3.trans (hb9.mono hbw3.size)
          clear hown3 hown hb9 hbw3 hnx2 hnx hbw2
          by_cases hc0 : cnt = 0
          · obtain rfl : got = ByteArray.empty := by
              rcases hgot with hE | h
              · exact absurd hE (htal.none hc0 got ((hkeys got).1 hE.has))
              · exact h.1
            subst hc0
            clear hgot htal
            go_wp2
            go_ret
            exact ⟨rfl, hbw4⟩
          · have hE : El D (.string got.data.toList) := by
              rcases hgot with hE | h
              · exact hE
              · obtain ⟨t, _, ht⟩ := htal.some (by omega)
                exact absurd ht (h.2 _)
            have hcb : ((cnt : Int) == 0) = false := beq_eq_false_iff_ne.2 (by omega)
            have hhas := hE.has
            have hmem := (hkeys got).1 hhas
            have hkey : keyOf Try.prog 9 (.string got) = some (.string got.data.toList) := keyOf_string_mk Try.underlying9 (hf got (List.mem_of_mem_take hmem))
            by_cases hc1 : cnt = 1
            · have hgs := htal.one hc1 got hmem hE
              subst hgs
              subst hc1
              clear hgot htal hmem
              go_wp2_with (first
                | (at_lookup; refine wpList_lookup_f_ok _ rfl _ _ rfl w2.heap.size m _ rfl hown4 _ _ rfl hkey ?_; intro p hat; obtain ⟨hp1, hp2⟩ := el_bits hE hat; clear hat)
                | go_in)
              go_ret
              exact ⟨by simp, hbw4⟩
            · have hcb2 : ((cnt : Int) == 1) = false := beq_eq_false_iff_ne.2 (by omega)
              clear hgot htal hmem
              go_wp2_with (first
                | (at_lookup; refine wpList_lookup_f_ok _ rfl _ _ rfl w2.heap.size m _ rfl hown4 _ _ rfl hkey ?_; intro p hat; obtain ⟨hp1, hp2⟩ := el_bits hE hat; clear hat)
                | go_in)
              go_ret
              exact ⟨rfl, hbw4⟩

/-- THE LAW, WHATEVER THE TWO SLICES AND u. -/
theorem elig_any (a b : Option Addr) (la lb ca cb u : Nat) (sa : List ByteArray) (fb : List Nat) (w : World) (ha : IsStrs w a la sa) (hb : IsFlts w b lb fb) (na : a = none → la = 0 ∧ ca = 0) (nb : b = none → lb = 0 ∧ cb = 0) :
    Calls Try.prog 3 #[.slice a la ca, .slice b lb cb, .float .f64 u] w fun e w' => e = .returned (.bool true) ∧ Below w.heap.size w w' := by
  by_cases hbig : 4096 < la ∨ 4096 < lb
  · exact elig_big a b la lb ca cb u sa fb w ha hb hbig
  by_cases hc : lb < la
  · exact elig_lt a b la lb ca cb u sa fb w ha hb na nb (by omega) (by omega) hc
  · exact elig_ge a b la lb ca cb u sa fb w ha hb na nb (by omega) (by omega) (by omega)

end Go.Proofs.Qxb6605420a
