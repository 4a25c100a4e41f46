/-
  SEAT b6605427a: THE WALK OF FnUseScriptAgreesWithHistory (4).
-/
import Derived.Test.Qxb6605427aMain
namespace Go.Proofs.Qxb6605427a
open Go.RowKit
open Plain (pos tst setB clrB clrTo zeros took isNew newH newB Ok Inv)
set_option linter.unusedVariables false

/-- What ZZUse does at one state and number, in letters. -/
def Does (h : Int) (bs : List Nat) (n : Int) (r : Bool) (h' : Int) (bs' : List Nat) : Prop :=
  ∀ w : World, Calls Try.prog 7 #[.int .i32 h, .agg (words bs).toArray, .int .i32 n] w fun e w' => e = .returned (.tuple #[.bool r, .int .i32 h', .agg (words bs').toArray]) ∧ Below w.heap.size w w'

theorem does_new {h n : Int} {bs : List Nat} (hok : Ok bs) (h0 : 0 ≤ h) (h1 : h ≤ 2147483647) (n0 : -2147483648 ≤ n) (n1 : n ≤ 2147483647) : Does h bs n (isNew h bs n) (newH h bs n) (newB h bs n) := fun w => zzuse_any h n bs w hok h0 h1 n0 n1
theorem does_no {h n : Int} {bs : List Nat} (hok : Ok bs) (h0 : 0 ≤ h) (h1 : h ≤ 2147483647) (n0 : -2147483648 ≤ n) (n1 : n ≤ 2147483647) (e : isNew h bs n = false) : Does h bs n false h bs := by
  have := does_new hok h0 h1 n0 n1
  rw [e, (Plain.new_no e).1, (Plain.new_no e).2] at this
  exact this

/-- What zzIn answers here, in letters. -/
def InIs (w : World) (g cap : Nat) (acc : List Int) (x : Int) (r : Bool) : Prop :=
  Calls Try.prog 11 #[.slice (some ⟨g, 0, none⟩) acc.length cap, .int .i32 x] w fun e w' => e = .returned (.bool r) ∧ w = w'

/-- The first k cells of the copy are ns's. -/
def Copied (xs : List Value) (zs : List Int) (k : Nat) : Prop := ∀ j, j < k → xs[j]? = some (.int .i32 (zs.getD j 0))
theorem copied_step {xs : List Value} {zs : List Int} {k : Nat} (h : Copied xs zs k) (hk : k < xs.length) : Copied (xs.set k (.int .i32 (zs.getD k 0))) zs (k + 1) := fun j hj => by
  rw [List.getElem?_set]
  by_cases e : k = j
  · subst e; simp [hk]
  · rw [if_neg e]; exact h j (by omega)
theorem copied_end {xs : List Value} {zs : List Int} (hl : xs.length = zs.length) (h : Copied xs zs zs.length) : xs = ints zs := by
  apply List.ext_getElem?
  intro j
  by_cases hj : j < zs.length
  · rw [h j hj, ints_get zs j hj]
  · rw [List.getElem?_eq_none (by omega), List.getElem?_eq_none (by simp [ints]; omega)]

set_option maxHeartbeats 400000 in
theorem script_big (a : Option Addr) (len cap : Nat) (w : World) (hm : len ≤ maxLen) (hbig : 4096 < len) :
    Calls Try.prog 4 #[.slice a len cap] w fun e w' => e = .returned (.bool true) ∧ Below w.heap.size w w' := by
  go_enter Try.func4, Try.ntmps4
  go_wp2_with (go_at_call 10; refine (guard10_any a len cap _ hm).mono ?_; rintro e w' ⟨⟨r, rfl⟩, hw⟩; subst hw; cases r)
  all_goals
    go_ret
    exact ⟨rfl, Below.refl _ _⟩

set_option maxHeartbeats 400000 in
theorem script_nil (w : World) :
    Calls Try.prog 4 #[.slice none 0 0] w fun e w' => e = .returned (.bool true) ∧ Below w.heap.size w w' := by
  obtain ⟨i0, hi, hz0, hz1, hz2⟩ := info_parts Try.info21
  go_enter Try.func4, Try.ntmps4
  go_wp2_with (first
    | (go_at_call 10; refine (guard10_any none 0 0 _ (by unfold maxLen; omega)).mono ?_; rintro e w' ⟨⟨r, rfl⟩, hw⟩; subst hw; cases r)
    | (at_make; refine wpList_make_own _ rfl _ _ 31 rfl w.heap.size 21 i0 (.int .i32 0) 1 Try.underlying31 hi hz0 hz1 .i64 .i64 _ 0 rfl rfl (by omega) (by omega) (by unfold maxLen; omega) (by simp) ?_; intro w3 hown3 hg3)
    | fail)
  · go_ret
    exact ⟨rfl, Below.refl _ _⟩
  refine wp_loop_rounds 1 ?_
  rw [rounds_succ]
  go_wp2
  go_ret
  exact ⟨rfl, ((Below.refl _ _).alloc (Nat.le_refl _) _).grown hg3 (by simp) (fun _ h => by cases h)⟩

theorem main_start {w wc w4 : World} {C len : Nat} {zs : List Int} (hown : wc.ownsRow C 21 1 (.slice (some ⟨C, 0, none⟩) len len) len (ints zs)) (hnx : Below w.heap.size w wc)
    (hown4 : w4.ownsRow (wc.heap.size + 1) 21 1 (.slice (some ⟨(wc.alloc (.cells (words zeros).toArray 23)).heap.size, 0, none⟩) 0 len) 0 []) (hg4 : (wc.alloc (.cells (words zeros).toArray 23)).grownBy w4 none) :
    Main w w4 C wc.heap.size (wc.heap.size + 1) len zs zeros [] := by
  have e : (wc.alloc (.cells (words zeros).toArray 23)).heap.size = wc.heap.size + 1 := by simp
  rw [e] at hown4
  refine ⟨(hown.alloc _).kept hg4 (.inr (by simp [Value.ownBlock])), (hg4.block _ (by simp) (by simp)).trans (arr_new wc zeros), hown4, ?_⟩
  exact (hnx.alloc hnx.size _).grown hg4 (by have := hnx.size; simp; omega) (fun _ h => by cases h)

set_option maxRecDepth 100000 in
set_option maxHeartbeats 1000000 in
theorem script_some (x : Addr) (len cap : Nat) (zs : List Int) (w : World) (hs : IsI32s w (some x) len zs) (h4 : len ≤ 4096) :
    Calls Try.prog 4 #[.slice (some x) len cap] w fun e w' => e = .returned (.bool true) ∧ Below w.heap.size w w' := by
  obtain ⟨i0, hi, hz0, hz1, hz2⟩ := info_parts Try.info21
  have hlz := hs.length
  have HLZ : Hid (zs.length = len) := hlz
  have hfit := hs.fits
  have hm := hs.most
  obtain ⟨b1, o1, i1, x1⟩ := hs.index cap
  have HX1 := (show Hid _ from x1)
  clear x1 hlz hs
  go_enter Try.func4, Try.ntmps4
  go_wp2_with (first
    | (go_at_call 10; refine (guard10_any (some x) len cap _ hm).mono ?_; rintro e w' ⟨⟨r, rfl⟩, hw⟩; subst hw; cases r)
    | (at_make; refine wpList_make_full _ rfl _ _ 31 rfl w.heap.size 21 i0 (.int .i32 0) 1 Try.underlying31 hi hz0 hz1 .i64 .i64 _ _ len rfl rfl rfl rfl (by rw [hz2]; omega) (by unfold maxLen; omega) (Nat.le_refl _) ?_; intro w1 hown1 hg1)
    | fail)
  · go_ret
    exact ⟨rfl, Below.refl _ _⟩
  -- THE COPY
  have hb1 : Below w.heap.size w w1 := (Below.refl _ _).grown hg1 (Nat.le_refl _) (fun _ h => by cases h)
  clear hg1
  go_loopw [4] (fun i wr => ∃ (k : Nat) (xs : List Value), k ≤ len ∧ i = .int .i64 k ∧ wr.ownsRow w.heap.size 21 1 (.slice (some ⟨w.heap.size, 0, none⟩) len len) len xs ∧ Copied xs zs k ∧ Below w.heap.size w wr) (fun i _ => len - (intOf i).toNat)
  case atStart => exact ⟨0, _, Nat.zero_le _, rfl, hown1, fun j hj => by omega, hb1⟩
  case round =>
    obtain ⟨k, xs, hk, rfl, hown, hcp, hnx⟩ := hrel
    clear hown1 hb1
    by_cases hlt : k < len
    · have hc1 := HX1.out wr hnx k hlt
      have hxl : xs.length = len := by have := hown.1; omega
      have hcc := hown.cellAt k (by omega)
      rw [List.getElem?_eq_getElem (by omega)] at hcc
      have hff := hown.frozenAt k
      have f1 := fun wx => i1 k wx hlt
      have hst := hown.stored k (.int .i32 (zs.getD k 0))
      have hcs := copied_step hcp (by omega)
      obtain ⟨z, hz⟩ : ∃ z, z = zs.getD k 0 := ⟨_, rfl⟩
      rw [← hz] at hc1 hst hcs
      generalize xs[k] = old at hcc
      clear hz hcp
      have HXL : Hid (xs.length = len) := hxl
      clear hxl
      go_wp2
      go_roundw
      case rel => exact ⟨k + 1, _, by omega, by go_num, hst.1, hcs, hnx.grown hst.2 hnx.size (fun j hj => by cases hj; exact Nat.le_refl _)⟩
      case measure => simp [intOf]; omega
    · have hxz : xs = ints zs := copied_end (by have := hown.1; have := HLZ.out; omega) (by rw [HLZ.out]; exact fun j hj => hcp j (by omega))
      rw [hxz] at hown
      clear hxz hcp i1 HX1
      obtain ⟨wc, rfl⟩ : ∃ wc : World, wc = wr := ⟨_, rfl⟩
      have hCG : w.heap.size < wc.heap.size := (hown.lt _ rfl).2
      go_wp2_with (first
        | (at_make; refine wpList_make_own _ rfl _ _ 31 rfl (wc.heap.size + 1) 21 i0 (.int .i32 0) 1 Try.underlying31 hi hz0 hz1 .i64 .i64 _ len rfl rfl rfl (by rw [hz2]; omega) (by unfold maxLen; omega) (by simp) ?_; intro w4 hown4 hg4)
        | fail)
      have M0 := main_start hown hnx hown4 hg4
      clear hown hnx hown4 hg4
      have hC : w.heap.size < wc.heap.size + 1 := by omega
      -- THE MAIN LOOP
      go_loopw [5, 7, 8, 9] (fun hv av hiv iv wr => ∃ (k : Nat) (h : Int) (bs : List Nat) (acc : List Int), k ≤ len ∧ iv = .int .i64 k ∧ hv = .int .i32 h ∧ hiv = .int .i64 h ∧ av = .slice (some ⟨wc.heap.size + 1, 0, none⟩) acc.length len ∧ acc.length ≤ k ∧ Inv h bs acc ∧
          Main w wr w.heap.size wc.heap.size (wc.heap.size + 1) len zs bs acc) (fun _ _ _ iv _ => len - (intOf iv).toNat)
      case atStart => exact ⟨0, 0, zeros, [], Nat.zero_le _, rfl, rfl, rfl, rfl, Nat.le_refl _, Plain.inv_start, M0⟩
      case round =>
        obtain ⟨k2, h, bs, acc, hk2, rfl, rfl, rfl, rfl, hal, I, M⟩ := hrel
        clear M0
        by_cases hlt2 : k2 < len
        · have hcx := M.nsCell HLZ.out k2 hlt2
          have hzb := fit_at hfit k2
          obtain ⟨n, hn⟩ : ∃ n, n = zs.getD k2 0 := ⟨_, rfl⟩
          rw [← hn] at hcx hzb
          clear hn
          obtain ⟨hz1', hz2'⟩ := hzb
          have hlow := I.low
          have hhigh := I.high
          have lb := I.ok.len
          by_cases c1 : n < 1
          · have D := does_no I.ok I.low I.high hz1' hz2' (Plain.isNew_low (.inl c1))
            go_wp2_with (first
              | (refine wpList_load_arr (.tmp 6) rfl rfl wc.heap.size bs rfl M.arr lb ?_)
              | fail)
            refine (D _).mono ?_
            rintro e w5 ⟨rfl, hb5⟩
            have M5 := M.more hb5
            clear hb5 M hcx D
            go_wp2_with (first
              | (refine wpList_store_arr (.tmp 14) _ rfl rfl _ _ rfl bs rfl rfl rfl lb ?_; intro w6 E6 hb6; have M6 := M5.more hb6; clear hb6 M5)
              | (refine wpList_load_arr (.tmp 14) rfl rfl w5.heap.size bs rfl E6 lb ?_)
              | (refine wpList_store_over (.tmp 6) _ rfl rfl wc.heap.size bs bs rfl rfl M6.arr lb lb ?_; intro w7 A7 hk7; have M7 := M6.over hCG (Nat.lt_succ_self _) (Nat.le_of_lt hCG) A7 hk7; clear hk7 A7 M6 E6)
              | fail)
            go_roundw
            case rel => exact ⟨k2 + 1, h, bs, acc, by omega, by go_num, rfl, rfl, rfl, by omega, I, M7⟩
            case measure => simp [intOf]; omega
          by_cases c2 : n ≤ h - 1024
          · have D := does_no I.ok I.low I.high hz1' hz2' (Plain.isNew_low (.inr c2))
            go_wp2_with (first
              | (refine wpList_load_arr (.tmp 6) rfl rfl wc.heap.size bs rfl M.arr lb ?_)
              | fail)
            refine (D _).mono ?_
            rintro e w5 ⟨rfl, hb5⟩
            have M5 := M.more hb5
            clear hb5 M hcx D
            go_wp2_with (first
              | (refine wpList_store_arr (.tmp 14) _ rfl rfl _ _ rfl bs rfl rfl rfl lb ?_; intro w6 E6 hb6; have M6 := M5.more hb6; clear hb6 M5)
              | (refine wpList_load_arr (.tmp 14) rfl rfl w5.heap.size bs rfl E6 lb ?_)
              | (refine wpList_store_over (.tmp 6) _ rfl rfl wc.heap.size bs bs rfl rfl M6.arr lb lb ?_; intro w7 A7 hk7; have M7 := M6.over hCG (Nat.lt_succ_self _) (Nat.le_of_lt hCG) A7 hk7; clear hk7 A7 M6 E6)
              | fail)
            go_roundw
            case rel => exact ⟨k2 + 1, h, bs, acc, by omega, by go_num, rfl, rfl, rfl, by omega, I, M7⟩
            case measure => simp [intOf]; omega
          have c1' : 1 ≤ n := by omega
          have c2' : h - 1024 < n := by omega
          have zz : InIs wr (wc.heap.size + 1) len acc n (decide (n ∈ acc)) := zzIn_any (wc.heap.size + 1) len acc n wr (by omega) (fun j hj => M.accCell j hj)
          clear c1 c2
          by_cases c4 : n ∈ acc
          · have D := does_no I.ok I.low I.high hz1' hz2' (Plain.isNew_old I c1' c2' c4)
            rw [decide_eq_true c4] at zz
            have HZ := zz
            clear zz c4
            go_wp2_with fail
            refine (Calls.mono HZ ?_)
            rintro e w' ⟨rfl, hw⟩
            subst hw
            go_wp2_with (first
              | (refine wpList_load_arr (.tmp 6) rfl rfl wc.heap.size bs rfl M.arr lb ?_)
              | fail)
            refine (D _).mono ?_
            rintro e w5 ⟨rfl, hb5⟩
            have M5 := M.more hb5
            clear hb5 M hcx D
            go_wp2_with (first
              | (refine wpList_store_arr (.tmp 14) _ rfl rfl _ _ rfl bs rfl rfl rfl lb ?_; intro w6 E6 hb6; have M6 := M5.more hb6; clear hb6 M5)
              | (refine wpList_load_arr (.tmp 14) rfl rfl w5.heap.size bs rfl E6 lb ?_)
              | (refine wpList_store_over (.tmp 6) _ rfl rfl wc.heap.size bs bs rfl rfl M6.arr lb lb ?_; intro w7 A7 hk7; have M7 := M6.over hCG (Nat.lt_succ_self _) (Nat.le_of_lt hCG) A7 hk7; clear hk7 A7 M6 E6)
              | fail)
            go_roundw
            case rel => exact ⟨k2 + 1, h, bs, acc, by omega, by go_num, rfl, rfl, rfl, by omega, I, M7⟩
            case measure => simp [intOf]; omega
          have D := does_new I.ok I.low I.high hz1' hz2'
          have I2' := Plain.inv_step I c1' c2' hz2' c4
          have e := Plain.isNew_yes I c1' c2' c4
          have lT := I2'.ok.len
          rw [(Plain.new_yes e).1] at D I2'
          rw [e] at D
          rw [decide_eq_false c4] at zz
          have HZ := zz
          clear zz c4 e
          obtain ⟨T, hT⟩ : ∃ T, T = newB h bs n := ⟨_, rfl⟩
          rw [← hT] at D I2' lT
          clear hT
          have I2 := (show Hid _ from I2')
          clear I2'
          by_cases c5 : h < n
          · rw [if_pos c5] at D I2
            go_wp2_with fail
            refine (Calls.mono HZ ?_)
            rintro e w' ⟨rfl, hw⟩
            subst hw
            go_wp2_with (first
              | (refine wpList_load_arr (.tmp 6) rfl rfl wc.heap.size bs rfl M.arr lb ?_)
              | fail)
            refine (D _).mono ?_
            rintro e w5 ⟨rfl, hb5⟩
            have M5 := M.more hb5
            clear hb5 M hcx D HZ
            go_wp2_with (first
              | (refine wpList_store_arr (.tmp 14) _ rfl rfl _ _ rfl T rfl rfl rfl lT ?_; intro w6 E6 hb6; have M6 := M5.more hb6; clear hb6 M5)
              | (refine wpList_load_arr (.tmp 14) rfl rfl w5.heap.size T rfl E6 lT ?_)
              | (refine wpList_store_over (.tmp 6) _ rfl rfl wc.heap.size bs T rfl rfl M6.arr lb lT ?_; intro w7 A7 hk7; have M7 := M6.over hCG (Nat.lt_succ_self _) (Nat.le_of_lt hCG) A7 hk7; clear hk7 A7 M6 E6)
              | (at_builtin; refine wpList_append_fits _ rfl _ _ 31 rfl (wc.heap.size + 1) 21 i0 1 Try.underlying31 hi hz1 (wc.heap.size + 1) acc.length len (ints acc) rfl (M7.acc.alloc _) ⟨w7.heap.size, 0, none⟩ 1 1 [.int .i32 n] rfl rfl (cell_one_new _ _ _) (ints_oneCell .i32 [n]) (by omega) ?_; intro w8 hown8 hg8; have M8 := (M7.more ((Below.refl _ _).alloc (Nat.le_refl _) _)).append hC (Nat.lt_succ_self _) (by omega) hown8 hg8; clear hown8 hg8)
              | fail)
            go_roundw
            case rel => exact ⟨k2 + 1, n, T, acc ++ [n], by omega, by go_num, rfl, rfl, by simp, by simp; omega, I2.out, M8⟩
            case measure => simp [intOf]; omega
          · rw [if_neg c5] at D I2
            go_wp2_with fail
            refine (Calls.mono HZ ?_)
            rintro e w' ⟨rfl, hw⟩
            subst hw
            go_wp2_with (first
              | (refine wpList_load_arr (.tmp 6) rfl rfl wc.heap.size bs rfl M.arr lb ?_)
              | fail)
            refine (D _).mono ?_
            rintro e w5 ⟨rfl, hb5⟩
            have M5 := M.more hb5
            clear hb5 M hcx D HZ
            go_wp2_with (first
              | (refine wpList_store_arr (.tmp 14) _ rfl rfl _ _ rfl T rfl rfl rfl lT ?_; intro w6 E6 hb6; have M6 := M5.more hb6; clear hb6 M5)
              | (refine wpList_load_arr (.tmp 14) rfl rfl w5.heap.size T rfl E6 lT ?_)
              | (refine wpList_store_over (.tmp 6) _ rfl rfl wc.heap.size bs T rfl rfl M6.arr lb lT ?_; intro w7 A7 hk7; have M7 := M6.over hCG (Nat.lt_succ_self _) (Nat.le_of_lt hCG) A7 hk7; clear hk7 A7 M6 E6)
              | (at_builtin; refine wpList_append_fits _ rfl _ _ 31 rfl (wc.heap.size + 1) 21 i0 1 Try.underlying31 hi hz1 (wc.heap.size + 1) acc.length len (ints acc) rfl (M7.acc.alloc _) ⟨w7.heap.size, 0, none⟩ 1 1 [.int .i32 n] rfl rfl (cell_one_new _ _ _) (ints_oneCell .i32 [n]) (by omega) ?_; intro w8 hown8 hg8; have M8 := (M7.more ((Below.refl _ _).alloc (Nat.le_refl _) _)).append hC (Nat.lt_succ_self _) (by omega) hown8 hg8; clear hown8 hg8)
              | fail)
            go_roundw
            case rel => exact ⟨k2 + 1, h, T, acc ++ [n], by omega, by go_num, rfl, rfl, by simp, by simp; omega, I2.out, M8⟩
            case measure => simp [intOf]; omega
        · go_wp2
          go_ret
          exact ⟨rfl, M.below⟩

end Go.Proofs.Qxb6605427a
