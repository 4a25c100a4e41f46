/-
  SEAT b6605420a: THE WALK OF FnDistinctOfExtensionKeepsPrefix (function 5).
-/
import Derived.Test.Qxb6605420aAny
import Derived.Deep.QuietTactic
import Derived.BigQuiet
import Derived.WalkSmall
namespace Go.Proofs.Qxb6605420a
open Go.RowKit Go.Maps
open Go.WideMaps (keyOf_string_mk)
set_option linter.unusedVariables false

/-- A row of the call's own, the strings l in it, as a slice of strings. -/
theorem isStrs_own {w : World} {base g n cap : Nat} {l : List ByteArray} (h : w.ownsRow base 9 1 (.slice (some ⟨g, 0, none⟩) n cap) n (l.map Value.string)) (hn : l.length = n) (hm : n ≤ maxLen) (hf : ∀ s ∈ l, s.size ≤ maxLen) : IsStrs w (some ⟨g, 0, none⟩) n l :=
  ⟨hn, hf, hm, fun _ => ⟨g, 0, rfl, (h.lt g rfl).2, fun j hj => by
    rw [Nat.zero_add, h.cellAt j (by omega), List.getElem?_map, List.getElem?_eq_getElem (by omega)]
    simp [List.getElem?_eq_getElem (show j < l.length by omega)]⟩⟩

/-- What an append reads of such a slice. -/
theorem IsStrs.src {w : World} {a : Option Addr} {len : Nat} {ss : List ByteArray} (h : IsStrs w a len ss) {w' : World} (hb : Below w.heap.size w w') :
    ∀ ad, a = some ad → ∀ j u, (ss.map Value.string)[j]? = some u → w'.cell? (ad.add j) = some u := by
  intro ad ha j u hu
  rw [List.getElem?_map] at hu
  cases hj : ss[j]? with
  | none => rw [hj] at hu; cases hu
  | some s =>
    rw [hj] at hu
    simp at hu
    subst hu
    have hjl := (List.getElem?_eq_some_iff.1 hj).1
    have hl := h.length
    obtain ⟨b, off, hx, hbs, hc⟩ := h.cells (by omega)
    rw [ha] at hx
    cases hx
    have := hc j (by omega)
    rw [List.getD, hj] at this
    have e := hb.cell (p := ⟨b, off + j, none⟩) hbs
    rw [this] at e
    rw [WideShapes.add_plain]
    exact e

/-- What the law says of the two lists, place by place. -/
theorem ext_facts (sa sb : List ByteArray) : (Plain.ded sa).length ≤ (Plain.ded (sa ++ sb)).length ∧
    (∀ j, j < (Plain.ded sa).length → (Plain.ded (sa ++ sb)).getD j ByteArray.empty = (Plain.ded sa).getD j ByteArray.empty) ∧
    (∀ j, (Plain.ded sa).length ≤ j → j < (Plain.ded (sa ++ sb)).length → ¬ (Plain.ded (sa ++ sb)).getD j ByteArray.empty ∈ sa) := by
  obtain ⟨t, ht, hn⟩ := Plain.ded_append sa sb
  rw [ht]
  refine ⟨by simp, fun j hj => ?_, fun j hj hj2 => ?_⟩
  · rw [List.getD, List.getD, List.getElem?_append_left hj]
  · simp only [List.length_append] at hj2
    have e : (Plain.ded sa ++ t).getD j ByteArray.empty = t.getD (j - (Plain.ded sa).length) ByteArray.empty := by
      rw [List.getD, List.getD, List.getElem?_append_right hj]
    rw [e]
    exact hn _ (Plain.getD_mem _ _ _ (by omega))

/-- How many different strings l has. -/
def CountIs (n : Nat) (l : List ByteArray) : Prop := n = (Plain.ded l).length
theorem CountIs.le {n : Nat} {l : List ByteArray} (h : CountIs n l) : n ≤ l.length := by unfold CountIs at h; have := Plain.ded_length_le l; omega
theorem CountIs.new {n : Nat} {l : List ByteArray} (h : CountIs n l) {x : ByteArray} (hx : ¬ x ∈ l) : CountIs (n + 1) (l ++ [x]) := by
  unfold CountIs at h ⊢; rw [Plain.ded_snoc_new l x hx, h]; simp
theorem CountIs.old {n : Nat} {l : List ByteArray} (h : CountIs n l) {x : ByteArray} (hx : x ∈ l) : CountIs n (l ++ [x]) := by
  unfold CountIs at h ⊢; rw [Plain.ded_snoc_old l x hx, h]

set_option maxHeartbeats 400000 in
theorem ext_big (a b : Option Addr) (la lb ca cb : Nat) (sa sb : List ByteArray) (w : World) (ha : IsStrs w a la sa) (hb : IsStrs w b lb sb) (hbig : 4096 < la ∨ 4096 < lb) :
    Calls Try.prog 5 #[.slice a la ca, .slice b lb cb] w fun e w' => e = .returned (.bool true) ∧ Below w.heap.size w w' := by
  by_cases h1 : 4096 < la
  · go_enter Try.func5, Try.ntmps5
    go_wp2_with (go_at_call 13; refine (guard13_any ha hb ca cb).mono ?_; rintro e w' ⟨⟨r, rfl⟩, hw⟩; subst hw; cases r)
    all_goals
      go_ret
      exact ⟨rfl, Below.refl _ _⟩
  · have h2 : 4096 < lb := by omega
    go_enter Try.func5, Try.ntmps5
    go_wp2_with (go_at_call 13; refine (guard13_any ha hb ca cb).mono ?_; rintro e w' ⟨⟨r, rfl⟩, hw⟩; subst hw; cases r)
    all_goals
      go_ret
      exact ⟨rfl, Below.refl _ _⟩

set_option maxRecDepth 100000 in
set_option maxHeartbeats 1000000 in
theorem ext_some (a b : Option Addr) (la lb ca cb : Nat) (sa sb : List ByteArray) (w : World) (ha : IsStrs w a la sa) (hb : IsStrs w b lb sb) (na : a = none → la = 0 ∧ ca = 0) (nb : b = none → lb = 0 ∧ cb = 0) (h4 : la ≤ 4096) (h5 : lb ≤ 4096) :
    Calls Try.prog 5 #[.slice a la ca, .slice b lb cb] w fun e w' => e = .returned (.bool true) ∧ Below w.heap.size w w' := by
  have hmm := fun (w : World) (n : Int) => run_makeMap_hint (P := Try.prog) 30 9 4 Try.underlying30 .i64 n w
  obtain ⟨i0, hi, hz0, hz1, hz2⟩ := info_parts Try.info9
  obtain rfl := ha.length
  obtain rfl := hb.length
  obtain ⟨SS, hSS⟩ : ∃ SS, SS = sa ++ sb := ⟨_, rfl⟩
  obtain ⟨DA, hDA⟩ : ∃ DA, DA = Plain.ded sa := ⟨_, rfl⟩
  obtain ⟨DO, hDO⟩ : ∃ DO, DO = Plain.ded SS := ⟨_, rfl⟩
  have HSS : Hid (SS = sa ++ sb) := hSS
  have HDA : Hid (DA = Plain.ded sa) := hDA
  have HDO : Hid (DO = Plain.ded SS) := hDO
  clear hSS hDA hDO
  go_enter Try.func5, Try.ntmps5
  go_wp2_with (first
    | (go_at_call 13; refine (guard13_any ha hb ca cb).mono ?_; rintro e w' ⟨⟨r, rfl⟩, hw⟩; subst hw; cases r)
    | fail)
  · go_ret
    exact ⟨rfl, Below.refl _ _⟩
  refine (bytes_any ha h4 ca).mono ?_
  rintro e w' ⟨⟨r1, rfl⟩, hw⟩
  subst hw
  go_wp2_with fail
  refine (bytes_any hb h5 cb).mono ?_
  rintro e w' ⟨⟨r2, rfl⟩, hw⟩
  subst hw
  go_wp2_with fail
  · go_ret
    exact ⟨rfl, Below.refl _ _⟩
  refine (clone_any ha ca na h4).mono ?_
  rintro e w1 ⟨⟨a1, c1, rfl, ha1, na1⟩, hb1⟩
  go_wp2_with fail
  refine (clone_any (hb.kept hb1) cb nb h5).mono ?_
  rintro e w2 ⟨⟨a2, c2, rfl, ha2, na2⟩, hb2⟩
  have hbase : w2.heap.size ≤ w2.heap.size := Nat.le_refl _
  go_wp2_with (first
    | (at_make; refine wpList_make_own _ rfl _ _ 22 rfl w2.heap.size 9 i0 (.string ByteArray.empty) 1 Try.underlying22 hi hz0 hz1 .i64 .i64 _ (sa.length + sb.length) rfl rfl (by omega) (by rw [hz2]; omega) (by unfold maxLen; omega) hbase ?_; intro w3 hown3 hg3; have hb3 : Below w2.heap.size w2 w3 := (Below.refl _ _).grown hg3 (Nat.le_refl _) (fun _ h => by cases h))
    | (at_builtin; refine wpList_append_fits_any _ rfl (.tmp 43) (.tmp 44) 22 rfl w2.heap.size 9 i0 1 Try.underlying22 hi hz1 w2.heap.size 0 (sa.length + sb.length) [] rfl hown3 a1 sa.length c1 (sa.map Value.string) rfl (by simp) na1 ((ha1.kept hb2).src hb3) (strs_oneCell sa) (by omega) ?_; intro w4 hown4 hg4; have hb4 : Below w2.heap.size w2 w4 := hb3.grown hg4 hb3.size (fun j hj => by cases hj; exact Nat.le_refl _); simp only [Nat.zero_add, List.nil_append] at hown4)
    | (at_builtin; refine wpList_append_fits_any _ rfl (.tmp 46) (.tmp 47) 22 rfl w2.heap.size 9 i0 1 Try.underlying22 hi hz1 w2.heap.size sa.length (sa.length + sb.length) (sa.map Value.string) rfl hown4 a2 sb.length c2 (sb.map Value.string) rfl (by simp) na2 (ha2.src hb4) (strs_oneCell sb) (by omega) ?_; intro w5 hown5 hg5; have hb5 : Below w2.heap.size w2 w5 := hb4.grown hg5 hb4.size (fun j hj => by cases hj; exact Nat.le_refl _))
    | fail)
  -- distinct(a), distinct(ab)
  have ha5 : IsStrs w5 a1 sa.length sa := (ha1.kept hb2).kept hb5
  have hS5 : IsStrs w5 (some ⟨w2.heap.size, 0, none⟩) (sa.length + sb.length) SS := by
    rw [HSS.out]
    exact isStrs_own (by rw [List.map_append]; exact hown5) (by simp) (by unfold maxLen; omega) (fun s h => by rcases List.mem_append.1 h with h | h; exact ha.fits s h; exact hb.fits s h)
  have hbw5 : Below w.heap.size w w5 := hb1.trans ((hb2.mono hb1.size).trans (hb5.mono (Nat.le_trans hb1.size hb2.size)))
  clear hown3 hown4 hown5 hg3 hg4 hg5 hb3 hb4 hb5 hb2 hb1 ha2 na2 ha1 ha hb na nb na1 hbase
  have cA := zzdistinct_any ha5 c1 (by omega)
  rw [← HDA.out] at cA
  refine cA.mono ?_
  clear cA
  rintro e w6 ⟨⟨a3, c3, rfl, h3, _⟩, hb6⟩
  go_wp2_with fail
  have cO := zzdistinct_any (hS5.kept hb6) (sa.length + sb.length) (by omega)
  rw [← HDO.out] at cO
  refine cO.mono ?_
  clear cO
  rintro e w7 ⟨⟨a4, c4, rfl, h4', _⟩, hb7⟩
  -- where everything lies
  obtain ⟨b1, o1, i1, x1⟩ := ((ha5.kept hb6).kept hb7).index c1
  obtain ⟨b3, o3, i3, x3⟩ := (h3.kept hb7).index c3
  obtain ⟨b4, o4, i4, x4⟩ := h4'.index c4
  obtain ⟨b5, o5, i5, x5⟩ := ((hS5.kept hb6).kept hb7).index (sa.length + sb.length)
  have hfA := ha5.fits
  have hfS := hS5.fits
  have hbw7 : Below w.heap.size w w7 := hbw5.trans ((hb6.mono hbw5.size).trans (hb7.mono (Nat.le_trans hbw5.size hb6.size)))
  clear ha5 hS5 hbw5 hb6 hb7 h3 h4'
  have hSl : SS.length = sa.length + sb.length := by rw [HSS.out]; simp
  have HSl : Hid (SS.length = sa.length + sb.length) := hSl
  clear hSl
  obtain ⟨p1, p2, p3⟩ := ext_facts sa sb
  rw [← HSS.out, ← HDO.out, ← HDA.out] at p1 p2 p3
  have p4 : DO.length ≤ 8192 := by have := Plain.ded_length_le SS; rw [← HDO.out, HSl.out] at this; omega
  have p5 : ∀ s ∈ DO, s.size ≤ maxLen := fun s h => hfS s ((Plain.mem_ded SS s).1 (by rw [← HDO.out]; exact h))
  have HP2 := (show Hid _ from p2)
  have HP3 := (show Hid _ from p3)
  have HX1 := (show Hid _ from x1)
  have HX3 := (show Hid _ from x3)
  have HX4 := (show Hid _ from x4)
  have HX5 := (show Hid _ from x5)
  clear p2 p3 x1 x3 x4 x5
  go_wp2
  -- LOOP 1: how many different strings ab has
  go_loopw [9, 10] (fun c i wr => ∃ (k n : Nat) (D : DataW Unit), k ≤ sa.length + sb.length ∧ i = .int .i64 k ∧ c = .int .i64 n ∧ n ≤ k ∧ CountIs n (SS.take k) ∧
      wr.ownsMap Try.prog 9 (plainElem Try.prog 4) w7.heap.size k D ∧ SetIs D (SS.take k) ∧ Below w7.heap.size w7 wr)
    (fun _ i _ => sa.length + sb.length - (intOf i).toNat)
  case atStart => exact ⟨0, 0, _, Nat.zero_le _, rfl, rfl, Nat.le_refl _, by rw [List.take_zero]; rfl, World.ownsMap_made _ _ _ _, by rw [List.take_zero]; exact setIs_empty, (Below.refl _ _).alloc (Nat.le_refl _) _⟩
  case round =>
    obtain ⟨k, n, D, hk, rfl, rfl, hnk, hcn, hown, hset, hnx⟩ := hrel
    by_cases hlt : k < sa.length + sb.length
    · have hcx := HX5.out wr hnx k hlt
      have hkey : keyOf Try.prog 9 (.string (SS.getD k ByteArray.empty)) = some (.string (SS.getD k ByteArray.empty).data.toList) := keyOf_string_mk Try.underlying9 (fits_at hfS k)
      have hall := hset.1
      have hts := Plain.take_snoc SS k ByteArray.empty (by rw [HSl.out]; exact hlt)
      obtain ⟨s, hs⟩ : ∃ s, s = SS.getD k ByteArray.empty := ⟨_, rfl⟩
      rw [← hs] at hcx hkey hts
      clear hs
      have HT : Hid (SS.take (k + 1) = SS.take k ++ [s]) := hts
      clear hts
      go_wp2_with (first
        | (at_lookup; refine wpList_lookup_set _ rfl _ _ 30 rfl 9 4 law9 Try.underlying30 Try.underlying4 (zero4 _) w7.heap.size k _ rfl hown hall _ _ rfl hkey ?_)
        | (at_mapUpdate; refine wpList_mapUpdate_own _ rfl _ _ _ 30 rfl 9 4 law9 Try.underlying30 (plainElem (H := Unit) Try.prog 4) w7.heap.size k _ rfl hown (by unfold maxLen; omega) _ _ _ rfl rfl hkey _ [] (plainElem_bool Try.underlying4 true) ?_; intro w8 hown8 hgrow8)
        | go_in)
      · have ht : (!Maps.has D (Lit.string s.data.toList)) = true := by assumption
        have hc0 : ¬ s ∈ SS.take k := by
          intro hmem
          rw [(hset.2 s).2 hmem] at ht
          cases ht
        have hset1 := hset.put hown.isMap s
        go_roundw
        case rel => exact ⟨k + 1, n + 1, _, by omega, by go_num, by go_num, by omega, by rw [HT.out]; exact hcn.new hc0, hown8, by rw [HT.out]; exact hset1, hnx.grown hgrow8 hnx.size (fun j hj => by cases hj; exact Nat.le_refl _)⟩
        case measure => simp [intOf]; omega
      · have ht : (!Maps.has D (Lit.string s.data.toList)) = false := by assumption
        have hc1 : s ∈ SS.take k := (hset.2 s).1 (by simpa using ht)
        go_roundw
        case rel => exact ⟨k + 1, n, D, by omega, by go_num, rfl, by omega, by rw [HT.out]; exact hcn.old hc1, hown.mono (Nat.le_succ _), by rw [HT.out]; exact hset.old hc1, hnx⟩
        case measure => simp [intOf]; omega
    · have hne : ((DO.length : Int) != (n : Int)) = false := by
        rw [List.take_of_length_le (by rw [HSl.out]; omega)] at hcn
        unfold CountIs at hcn
        rw [HDO.out, ← hcn]
        simp
      clear hcn hown hset i5 HX5
      go_wp2
      -- LOOP 2: distinct(a) stands at the head
      go_loopw [11] (fun i wr2 => ∃ j : Nat, j ≤ DA.length ∧ i = .int .i64 j ∧ Below w7.heap.size w7 wr2) (fun i _ => DA.length - (intOf i).toNat)
      case atStart => exact ⟨0, Nat.zero_le _, rfl, hnx⟩
      case round =>
        obtain ⟨j, hj, rfl, hnx2⟩ := hrel
        clear hnx
        by_cases hjl : j < DA.length
        · have hjo : j < DO.length := by omega
          have hc3 := HX3.out wr hnx2 j hjl
          have hc4 := HX4.out wr hnx2 j hjo
          rw [HP2.out j hjl] at hc4
          have f3 := fun wx => i3 j wx hjl
          have f4 := fun wx => i4 j wx hjo
          go_wp2
          go_quiet (fail)
          go_wp2
          go_roundw
          case rel => exact ⟨j + 1, by omega, by go_num, below_drewN hnx2 _⟩
          case measure => simp [intOf]; omega
        · clear i3 HX3 HP2
          go_wp2
          -- LOOP 3: the set of a's strings
          obtain ⟨wq, rfl⟩ : ∃ wq : World, wq = wr := ⟨_, rfl⟩
          go_loopw [13] (fun i wr3 => ∃ (m : Nat) (D : DataW Unit), m ≤ sa.length ∧ i = .int .i64 m ∧ wr3.ownsMap Try.prog 9 (plainElem Try.prog 4) wq.heap.size m D ∧ SetIs D (sa.take m) ∧ Below wq.heap.size wq wr3) (fun i _ => sa.length - (intOf i).toNat)
          case atStart => exact ⟨0, _, Nat.zero_le _, rfl, World.ownsMap_made _ _ _ _, by rw [List.take_zero]; exact setIs_empty, (Below.refl _ _).alloc (Nat.le_refl _) _⟩
          case round =>
            obtain ⟨m, D3, hm, rfl, hown3, hset3, hnx4⟩ := hrel
            have hnx5 : Below w7.heap.size w7 wr := hnx2.trans (hnx4.mono hnx2.size)
            by_cases hml : m < sa.length
            · have hc1 := HX1.out wr hnx5 m hml
              have hkey : keyOf Try.prog 9 (.string (sa.getD m ByteArray.empty)) = some (.string (sa.getD m ByteArray.empty).data.toList) := keyOf_string_mk Try.underlying9 (fits_at hfA m)
              have hts := Plain.take_snoc sa m ByteArray.empty hml
              obtain ⟨s, hs⟩ : ∃ s, s = sa.getD m ByteArray.empty := ⟨_, rfl⟩
              rw [← hs] at hc1 hkey hts
              clear hs
              have HT : Hid (sa.take (m + 1) = sa.take m ++ [s]) := hts
              clear hts
              go_wp2_with (first
                | (at_mapUpdate; refine wpList_mapUpdate_own _ rfl _ _ _ 30 rfl 9 4 law9 Try.underlying30 (plainElem (H := Unit) Try.prog 4) wq.heap.size m _ rfl hown3 (by unfold maxLen; omega) _ _ _ rfl rfl hkey _ [] (plainElem_bool Try.underlying4 true) ?_; intro w8 hown8 hgrow8; go_frame)
                | go_in)
              have hset1 := hset3.put hown3.isMap s
              go_roundw
              case rel => exact ⟨m + 1, _, by omega, by go_num, hown8, by rw [HT.out]; exact hset1, hnx4.grown hgrow8 hnx4.size (fun j hj => by cases hj; exact Nat.le_refl _)⟩
              case measure => simp [intOf]; omega
            · clear i1 HX1
              have hall := hset3.1
              rw [List.take_of_length_le (by omega)] at hset3
              go_wp2
              -- LOOP 4: nothing behind that head occurs in a
              go_loop [14] (fun i => ∃ q : Nat, DA.length ≤ q ∧ q ≤ DO.length ∧ i = .int .i64 q) (fun i => DO.length - (intOf i).toNat)
              case atStart => exact ⟨DA.length, Nat.le_refl _, p1, rfl⟩
              case round =>
                obtain ⟨q, hq1, hq2, rfl⟩ := hrel
                by_cases hql : q < DO.length
                · have hc4 := HX4.out wr hnx5 q hql
                  have hkey : keyOf Try.prog 9 (.string (DO.getD q ByteArray.empty)) = some (.string (DO.getD q ByteArray.empty).data.toList) := keyOf_string_mk Try.underlying9 (fits_at p5 q)
                  have hno := HP3.out q hq1 hql
                  obtain ⟨s, hs⟩ : ∃ s, s = DO.getD q ByteArray.empty := ⟨_, rfl⟩
                  rw [← hs] at hc4 hkey hno
                  clear hs
                  have hhas : Maps.has D3 (.string s.data.toList) = false := by
                    cases e : Maps.has D3 (.string s.data.toList)
                    · rfl
                    · exact absurd ((hset3.2 s).1 e) hno
                  go_wp2_with (first
                    | (at_lookup; refine wpList_lookup_set _ rfl _ _ 30 rfl 9 4 law9 Try.underlying30 Try.underlying4 (zero4 _) wq.heap.size m _ rfl hown3 hall _ _ rfl hkey ?_)
                    | go_in)
                  · exact absurd (by assumption : Maps.has D3 (.string s.data.toList) = true) (by rw [hhas]; simp)
                  go_round
                  case rel => exact ⟨q + 1, by omega, by omega, by go_num⟩
                  case measure => simp [intOf]; omega
                · go_wp2
                  go_ret
                  exact ⟨rfl, hbw7.trans (hnx5.mono hbw7.size)⟩

/-- THE LAW, WHATEVER THE TWO SLICES. -/
theorem ext_any (a b : Option Addr) (la lb ca cb : Nat) (sa sb : List ByteArray) (w : World) (ha : IsStrs w a la sa) (hb : IsStrs w b lb sb) (na : a = none → la = 0 ∧ ca = 0) (nb : b = none → lb = 0 ∧ cb = 0) :
    Calls Try.prog 5 #[.slice a la ca, .slice b lb cb] w fun e w' => e = .returned (.bool true) ∧ Below w.heap.size w w' := by
  by_cases hbig : 4096 < la ∨ 4096 < lb
  · exact ext_big a b la lb ca cb sa sb w ha hb hbig
  · exact ext_some a b la lb ca cb sa sb w ha hb na nb (by omega) (by omega)

end Go.Proofs.Qxb6605420a
