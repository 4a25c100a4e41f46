/-
  SEAT b6605427a: THE WALK OF FnUseMatchesWindowModel (3).
-/
import Derived.Test.Qxb6605427aBit
import Derived.Test.Qxb6605427aWant
namespace Go.Proofs.Qxb6605427a
open Go.RowKit
open Plain (pos tst setB clrB clrTo zeros took isNew newH newB Ok On Built)
set_option linter.unusedVariables false

/-- What ZZUse and zzTaken do here, in letters. -/
def Gets (h : Int) (bs : List Nat) (n : Int) (r : Bool) (h' : Int) (bs' : List Nat) : Prop :=
  ∀ w : World, Calls Try.prog 7 #[.int .i32 h, .agg (words bs).toArray, .int .i32 n] w fun e w' => e = .returned (.tuple #[.bool r, .int .i32 h', .agg (words bs').toArray]) ∧ Below w.heap.size w w'
def TakenIs (h : Int) (bs : List Nat) (m : Int) (r : Bool) : Prop :=
  ∀ w : World, Calls Try.prog 6 #[.int .i64 h, .agg (words bs).toArray, .int .i64 m] w fun e w' => e = .returned (.bool r) ∧ Below w.heap.size w w'

set_option maxHeartbeats 400000 in
theorem model_no (h n : Int) (bs : List Nat) (w : World) (h0 : 0 ≤ h) (h1 : h ≤ 2147483647) (n0 : -2147483648 ≤ n) (n1 : n ≤ 2147483647) (l0 : bs.length = 16) (TK : TakenIs h bs n true) (D : Gets h bs n false h bs) :
    Calls Try.prog 3 #[.int .i32 h, .agg (words bs).toArray, .int .i32 n] w fun e w' => e = .returned (.bool true) ∧ Below w.heap.size w w' := by
  go_enter Try.func3, Try.ntmps3
  go_wp2_with (first | (refine wpList_load_arr (.tmp 4) rfl rfl w.heap.size bs rfl (arr_new w bs) l0 ?_) | fail)
  refine (TK _).mono ?_
  rintro e w1 ⟨rfl, hb1⟩
  have A1 := (arr_new w bs).kept hb1
  have B1 : Below w.heap.size w w1 := ((Below.refl _ _).alloc (Nat.le_refl _) _).trans (hb1.mono (by simp))
  clear hb1
  go_wp2_with (first | (refine wpList_load_arr (.tmp 4) rfl rfl w.heap.size bs rfl A1 l0 ?_) | fail)
  refine (D _).mono ?_
  rintro e w2 ⟨rfl, hb2⟩
  have A2 := A1.kept hb2
  have B2 := B1.trans (hb2.mono B1.size)
  clear hb2 A1 B1 D TK
  go_wp2_with (first
    | (refine wpList_store_arr (.tmp 12) _ rfl rfl _ _ rfl bs rfl rfl rfl l0 ?_; intro w3 E3 hb3; have A3 := A2.kept hb3; have B3 := B2.trans (hb3.mono B2.size); clear hb3 A2)
    | (refine wpList_load_arr_if (.tmp 12) rfl ?_ w2.heap.size bs rfl E3 l0 ?_)
    | (refine wpList_load_arr_if (.tmp 4) rfl (Hid.out ?_) w.heap.size bs rfl A3 l0 (Hid.out ?_))
    | fail)
  · exact trivial
  unfold Hid
  refine wpList_eql_arr_if (.tmp 47) (.tmp 48) rfl ?_ bs ?_ ?_ l0 ?_
  · go_simp
  · rfl
  · rfl
  go_wp2
  go_ret
  exact ⟨rfl, B3⟩

theorem Arr.setWord {w : World} {g : Nat} {bs : List Nat} (h : Arr w g bs) (k z : Nat) : Arr (w.setCell ⟨g, k, none⟩ (.int .u64 (z : Nat))) g (bs.set k z) := by
  simp only [Arr] at h ⊢
  simp only [World.setCell, Array.getElem?_modify, h]
  simp [words, List.map_set]
theorem Arr.other {w : World} {g : Nat} {bs : List Nat} (h : Arr w g bs) {g' j : Nat} {v : Value} (hne : g ≠ g') : Arr (w.setCell ⟨g', j, none⟩ v) g bs := (Below.heap_setCell _ _ _ _ hne).trans h

/-- WHAT THE LOOP THAT REBUILDS THE WINDOW HOLDS IN MEMORY: the bits as they came (at g0), what use left (at g1), the window so far (at g2). -/
structure Three (w wr : World) (g0 g1 g2 : Nat) (bs T cs : List Nat) : Prop where
  came : Arr wr g0 bs
  got : Arr wr g1 T
  want : Arr wr g2 cs
  below : Below w.heap.size w wr

theorem Three.more {w wr w' : World} {g0 g1 g2 : Nat} {bs T cs : List Nat} (M : Three w wr g0 g1 g2 bs T cs) (h : Below wr.heap.size wr w') : Three w w' g0 g1 g2 bs T cs :=
  ⟨M.came.kept h, M.got.kept h, M.want.kept h, M.below.trans (h.mono M.below.size)⟩
theorem Three.set {w wr : World} {g0 g1 g2 : Nat} {bs T cs : List Nat} (M : Three w wr g0 g1 g2 bs T cs) (h0 : g0 ≠ g2) (h1 : g1 ≠ g2) (hw : w.heap.size ≤ g2) (k z : Nat) : Three w (wr.setCell ⟨g2, k, none⟩ (.int .u64 (z : Nat))) g0 g1 g2 bs T (cs.set k z) :=
  ⟨M.came.other h0, M.got.other h1, M.want.setWord k z, M.below.setCell hw _⟩
theorem three_start {w w2 w3 : World} {g1 : Nat} {bs T : List Nat} (A3 : Arr w3 w.heap.size bs) (E3 : Arr w3 g1 T) (B3 : Below w.heap.size w w3) : Three w (w3.alloc (.cells (words zeros).toArray 23)) w.heap.size g1 w3.heap.size bs T zeros :=
  ⟨A3.kept ((Below.refl _ _).alloc (Nat.le_refl _) _), E3.kept ((Below.refl _ _).alloc (Nat.le_refl _) _), arr_new w3 zeros, B3.alloc B3.size _⟩

theorem pos_is (x : Int) (h0 : -9223372036854775808 ≤ x) (h1 : x ≤ 9223372036854775807) : PosIs x (pos x) := fun w => zzPos_any x w h0 h1
theorem shl_eq (q : Nat) : IntKind.u64.wrap (2 ^ (q % 64)) = ((2 ^ (q % 64) : Nat) : Int) := by
  have hl := Plain.pow_lt q
  have e2 : (2 : Int) ^ (q % 64) = ((2 ^ (q % 64) : Nat) : Int) := by simp
  rw [IntKind.wrap_u64, e2]
  generalize 2 ^ (q % 64) = z at hl
  omega

theorem or_pow (v q : Nat) (hv : v < 18446744073709551616) : bits .or .u64 (v : Int) (2 ^ (q % 64)) = ((v ||| 2 ^ (q % 64) : Nat) : Int) := by
  have e2 : (2 : Int) ^ (q % 64) = ((2 ^ (q % 64) : Nat) : Int) := by simp
  rw [e2]
  exact u64_or_nat v (2 ^ (q % 64)) hv (Plain.pow_lt q)
theorem Three.mark {w wr : World} {g0 g1 g2 : Nat} {bs T cs : List Nat} (M : Three w wr g0 g1 g2 bs T cs) (h0 : g0 ≠ g2) (h1 : g1 ≠ g2) (hw : w.heap.size ≤ g2) {q v : Nat} (hv : v < 18446744073709551616) (e : v = cs.getD (q / 64) 0) :
    Three w (wr.setCell ⟨g2, q / 64, none⟩ (.int .u64 (bits .or .u64 (v : Int) (2 ^ (q % 64))))) g0 g1 g2 bs T (setB cs q) := by
  rw [or_pow v q hv]
  unfold Plain.setB
  rw [← e]
  exact M.set h0 h1 hw _ _
theorem below_undrew {w w' : World} (h : Below w.drew.heap.size w.drew w') : Below w.heap.size w w' := ⟨h.os, h.tape, h.output, h.size, h.block⟩

set_option maxRecDepth 100000 in
set_option maxHeartbeats 1000000 in
theorem model_up (h n : Int) (bs T : List Nat) (w : World) (hok : Ok bs) (h0 : 0 ≤ h) (h1 : h ≤ 2147483647) (n0 : 1 ≤ n) (n1 : n ≤ 2147483647) (lT : T.length = 16) (hc : h < n) (TK : TakenIs h bs n false) (D : Gets h bs n true n T)
    (HEND : Hid (∀ cs, Built h bs n (n - 1023) (n + 1) cs → cs = T)) :
    Calls Try.prog 3 #[.int .i32 h, .agg (words bs).toArray, .int .i32 n] w fun e w' => e = .returned (.bool true) ∧ Below w.heap.size w w' := by
  have l0 := hok.len
  go_enter Try.func3, Try.ntmps3
  go_wp2_with (first | (refine wpList_load_arr (.tmp 4) rfl rfl w.heap.size bs rfl (arr_new w bs) l0 ?_) | fail)
  refine (TK _).mono ?_
  rintro e w1 ⟨rfl, hb1⟩
  have A1 := (arr_new w bs).kept hb1
  have B1 : Below w.heap.size w w1 := ((Below.refl _ _).alloc (Nat.le_refl _) _).trans (hb1.mono (by simp))
  clear hb1
  go_wp2_with (first | (refine wpList_load_arr (.tmp 4) rfl rfl w.heap.size bs rfl A1 l0 ?_) | fail)
  refine (D _).mono ?_
  rintro e w2 ⟨rfl, hb2⟩
  have A2 := A1.kept hb2
  have B2 := B1.trans (hb2.mono B1.size)
  clear hb2 A1 B1 D TK
  go_wp2_with (first
    | (refine wpList_store_arr (.tmp 12) _ rfl rfl _ _ rfl T rfl rfl rfl lT ?_; intro w3 E3 hb3; have A3 := A2.kept hb3; have B3 := B2.trans (hb3.mono B2.size); clear hb3)
    | fail)
  have M0 := three_start (w2 := w2) A3 E3 B3
  have g02 : w.heap.size ≠ w3.heap.size := Nat.ne_of_lt A3.lt
  have g12 : w2.heap.size ≠ w3.heap.size := Nat.ne_of_lt E3.lt
  have gw := B3.size
  clear A3 E3 B3 A2 B2
  go_loopw [15] (fun xv wr => ∃ (x : Int) (cs : List Nat), n - 1023 ≤ x ∧ x ≤ n + 1 ∧ xv = .int .i64 x ∧ Built h bs n (n - 1023) x cs ∧ Three w wr w.heap.size w2.heap.size w3.heap.size bs T cs) (fun xv _ => (n + 1 - intOf xv).toNat)
  case atStart => exact ⟨n - 1023, zeros, by omega, by omega, by go_num, Plain.built_start _ _ _ _, M0⟩
  case round =>
    obtain ⟨x, cs, x0, x1, rfl, B, M⟩ := hrel
    clear M0
    by_cases hx : x ≤ n
    · have lc := B.ok.len
      have HP := pos_is x (by omega) (by omega)
      have hq := Plain.pos_lt x
      by_cases hon : x = n
      · have hbn : (x == n) = true := beq_iff_eq.2 hon
        have B2 := B.on x0 (.inl hon)
        clear hon
        have cw := M.want.word lc (pos x / 64) (by omega)
        have fw := M.want.thaw (pos x / 64)
        have hv := B.ok.at (pos x / 64)
        obtain ⟨q, hqe⟩ : ∃ q, q = pos x := ⟨_, rfl⟩
        rw [← hqe] at HP hq cw fw hv B2
        clear hqe
        obtain ⟨v, hve⟩ : ∃ v, v = cs.getD (q / 64) 0 := ⟨_, rfl⟩
        have HV : Hid (v = cs.getD (q / 64) 0) := hve
        rw [← hve] at cw hv
        clear hve
        have hsh := shl_eq q
        go_wp2_with (first | (go_at_call 9; refine (HP _).mono ?_; rintro e w' ⟨rfl, hw⟩; subst hw) | fail)
        go_roundw
        case rel => exact ⟨x + 1, setB cs q, by omega, by omega, rfl, B2, M.mark g02 g12 gw hv HV.out⟩
        case measure => simp [intOf]; omega
      · have hbn : (x == n) = false := beq_eq_false_iff_ne.2 hon
        by_cases hin : x ≤ h ∧ h - 1024 < x
        · obtain ⟨hi1, hi2⟩ := hin
          have hcl : (words bs).length = 16 := by rw [words_length, l0]
          have hc1 : ∀ v ∈ words bs, v.oneCell' = true := fun v hv => by
            obtain ⟨s, _, rfl⟩ := List.mem_map.1 hv
            rfl
          have hu := Try.underlying23
          have hi : (Try.prog.info? 23).map (·.size) = some (words bs).length := by rw [Try.size23, hcl]
          have hr := M.came.range
          have HBB : BitIs' (words bs) (pos x) (tst bs (pos x)) := fun w => zzBit_any (pos x) bs w hq hok
          cases ht : tst bs (pos x)
          · have B2 := B.off (fun hO => by rcases hO with hO | hO; exact hon hO; rw [ht] at hO; exact absurd hO.2.2 (by simp))
            rw [ht] at HBB
            clear ht hon
            obtain ⟨q, hqe⟩ : ∃ q, q = pos x := ⟨_, rfl⟩
            rw [← hqe] at HP hq HBB
            clear hqe
            go_wp2
            go_region_held3 (fun w' => w'.rangeAt w.heap.size 0 (words bs)) (first | exact range_below (by simpa using hr) hb | (simpa using hr)) (first | (go_at_call 9; refine (HP _).mono ?_; rintro e w' ⟨rfl, hw⟩; subst hw) | (go_at_call 8; refine (HBB _).mono ?_; rintro e w9 ⟨rfl, hb⟩))
            have M9 := M.more (below_undrew hb)
            clear hb hr M
            go_wp2
            go_roundw
            case rel => exact ⟨x + 1, cs, by omega, by omega, rfl, B2, M9⟩
            case measure => simp [intOf]; omega
          · have B2 := B.on x0 (.inr ⟨hi1, hi2, ht⟩)
            rw [ht] at HBB
            clear ht hon
            have hv := B.ok.at (pos x / 64)
            obtain ⟨q, hqe⟩ : ∃ q, q = pos x := ⟨_, rfl⟩
            rw [← hqe] at HP hq HBB hv B2
            clear hqe
            have hsh := shl_eq q
            go_wp2
            go_region_held3 (fun w' => w'.rangeAt w.heap.size 0 (words bs)) (first | exact range_below (by simpa using hr) hb | (simpa using hr)) (first | (go_at_call 9; refine (HP _).mono ?_; rintro e w' ⟨rfl, hw⟩; subst hw) | (go_at_call 8; refine (HBB _).mono ?_; rintro e w9 ⟨rfl, hb⟩))
            have M9 := M.more (below_undrew hb)
            clear hb hr M
            have cw := M9.want.word lc (q / 64) (by omega)
            have fw := M9.want.thaw (q / 64)
            obtain ⟨v, hve⟩ : ∃ v, v = cs.getD (q / 64) 0 := ⟨_, rfl⟩
            have HV : Hid (v = cs.getD (q / 64) 0) := hve
            rw [← hve] at cw hv
            clear hve hu hi hc1 hcl HBB
            go_wp2_with (first | (go_at_call 9; refine (HP _).mono ?_; rintro e w' ⟨rfl, hw⟩; subst hw) | fail)
            go_roundw
            case rel => exact ⟨x + 1, setB cs q, by omega, by omega, rfl, B2, M9.mark g02 g12 gw hv HV.out⟩
            case measure => simp [intOf]; omega
        · have B2 := B.off (fun hO => by rcases hO with hO | hO; exact hon hO; exact hin ⟨hO.1, hO.2.1⟩)
          clear hon
          by_cases hi1 : x ≤ h
          · exact absurd (show x ≤ h - 1024 by omega) (by omega)
          · clear hin
            go_wp2
            go_roundw
            case rel => exact ⟨x + 1, cs, by omega, by omega, rfl, B2, M⟩
            case measure => simp [intOf]; omega
    · have hxe : x = n + 1 := by omega
      have hcT : cs = T := HEND.out cs (by rw [← hxe]; exact B)
      rw [hcT] at M
      have MG := M.got
      have MW := M.want
      have MB := M.below
      clear hxe hcT B M
      go_wp2_with (first
        | (refine wpList_load_arr_if (.tmp 12) rfl ?_ w2.heap.size T rfl MG lT ?_)
        | (refine wpList_load_arr_if (.tmp 14) rfl (Hid.out ?_) w3.heap.size T rfl MW lT (Hid.out ?_))
        | fail)
      · exact trivial
      unfold Hid
      refine wpList_eql_arr_if (.tmp 105) (.tmp 106) rfl ?_ T ?_ ?_ lT ?_
      · go_simp
      · rfl
      · rfl
      go_wp2
      go_ret
      exact ⟨rfl, MB⟩

set_option maxRecDepth 100000 in
set_option maxHeartbeats 1000000 in
theorem model_in (h n : Int) (bs T : List Nat) (w : World) (hok : Ok bs) (h0 : 0 ≤ h) (h1 : h ≤ 2147483647) (n0 : 1 ≤ n) (n1 : n ≤ 2147483647) (lT : T.length = 16) (hc : n ≤ h) (TK : TakenIs h bs n false) (D : Gets h bs n true h T)
    (HEND : Hid (∀ cs, Built h bs n (h - 1023) (h + 1) cs → cs = T)) :
    Calls Try.prog 3 #[.int .i32 h, .agg (words bs).toArray, .int .i32 n] w fun e w' => e = .returned (.bool true) ∧ Below w.heap.size w w' := by
  have l0 := hok.len
  have hcb0 : decide (h < n) = false := decide_eq_false (by omega)
  go_enter Try.func3, Try.ntmps3
  go_wp2_with (first | (refine wpList_load_arr (.tmp 4) rfl rfl w.heap.size bs rfl (arr_new w bs) l0 ?_) | fail)
  refine (TK _).mono ?_
  rintro e w1 ⟨rfl, hb1⟩
  have A1 := (arr_new w bs).kept hb1
  have B1 : Below w.heap.size w w1 := ((Below.refl _ _).alloc (Nat.le_refl _) _).trans (hb1.mono (by simp))
  clear hb1
  go_wp2_with (first | (refine wpList_load_arr (.tmp 4) rfl rfl w.heap.size bs rfl A1 l0 ?_) | fail)
  refine (D _).mono ?_
  rintro e w2 ⟨rfl, hb2⟩
  have A2 := A1.kept hb2
  have B2 := B1.trans (hb2.mono B1.size)
  clear hb2 A1 B1 D TK
  go_wp2_with (first
    | (refine wpList_store_arr (.tmp 12) _ rfl rfl _ _ rfl T rfl rfl rfl lT ?_; intro w3 E3 hb3; have A3 := A2.kept hb3; have B3 := B2.trans (hb3.mono B2.size); clear hb3)
    | fail)
  have M0 := three_start (w2 := w2) A3 E3 B3
  have g02 : w.heap.size ≠ w3.heap.size := Nat.ne_of_lt A3.lt
  have g12 : w2.heap.size ≠ w3.heap.size := Nat.ne_of_lt E3.lt
  have gw := B3.size
  clear A3 E3 B3 A2 B2
  go_loopw [15] (fun xv wr => ∃ (x : Int) (cs : List Nat), h - 1023 ≤ x ∧ x ≤ h + 1 ∧ xv = .int .i64 x ∧ Built h bs n (h - 1023) x cs ∧ Three w wr w.heap.size w2.heap.size w3.heap.size bs T cs) (fun xv _ => (h + 1 - intOf xv).toNat)
  case atStart => exact ⟨h - 1023, zeros, by omega, by omega, by go_num, Plain.built_start _ _ _ _, M0⟩
  case round =>
    obtain ⟨x, cs, x0, x1, rfl, B, M⟩ := hrel
    clear M0
    by_cases hx : x ≤ h
    · have lc := B.ok.len
      have HP := pos_is x (by omega) (by omega)
      have hq := Plain.pos_lt x
      by_cases hon : x = n
      · have hbn : (x == n) = true := beq_iff_eq.2 hon
        have B2 := B.on x0 (.inl hon)
        clear hon
        have cw := M.want.word lc (pos x / 64) (by omega)
        have fw := M.want.thaw (pos x / 64)
        have hv := B.ok.at (pos x / 64)
        obtain ⟨q, hqe⟩ : ∃ q, q = pos x := ⟨_, rfl⟩
        rw [← hqe] at HP hq cw fw hv B2
        clear hqe
        obtain ⟨v, hve⟩ : ∃ v, v = cs.getD (q / 64) 0 := ⟨_, rfl⟩
        have HV : Hid (v = cs.getD (q / 64) 0) := hve
        rw [← hve] at cw hv
        clear hve
        have hsh := shl_eq q
        go_wp2_with (first | (go_at_call 9; refine (HP _).mono ?_; rintro e w' ⟨rfl, hw⟩; subst hw) | fail)
        go_roundw
        case rel => exact ⟨x + 1, setB cs q, by omega, by omega, rfl, B2, M.mark g02 g12 gw hv HV.out⟩
        case measure => simp [intOf]; omega
      · have hbn : (x == n) = false := beq_eq_false_iff_ne.2 hon
        by_cases hin : x ≤ h ∧ h - 1024 < x
        · obtain ⟨hi1, hi2⟩ := hin
          have hcl : (words bs).length = 16 := by rw [words_length, l0]
          have hc1 : ∀ v ∈ words bs, v.oneCell' = true := fun v hv => by
            obtain ⟨s, _, rfl⟩ := List.mem_map.1 hv
            rfl
          have hu := Try.underlying23
          have hi : (Try.prog.info? 23).map (·.size) = some (words bs).length := by rw [Try.size23, hcl]
          have hr := M.came.range
          have HBB : BitIs' (words bs) (pos x) (tst bs (pos x)) := fun w => zzBit_any (pos x) bs w hq hok
          cases ht : tst bs (pos x)
          · have B2 := B.off (fun hO => by rcases hO with hO | hO; exact hon hO; rw [ht] at hO; exact absurd hO.2.2 (by simp))
            rw [ht] at HBB
            clear ht hon
            obtain ⟨q, hqe⟩ : ∃ q, q = pos x := ⟨_, rfl⟩
            rw [← hqe] at HP hq HBB
            clear hqe
            go_wp2
            go_region_held3 (fun w' => w'.rangeAt w.heap.size 0 (words bs)) (first | exact range_below (by simpa using hr) hb | (simpa using hr)) (first | (go_at_call 9; refine (HP _).mono ?_; rintro e w' ⟨rfl, hw⟩; subst hw) | (go_at_call 8; refine (HBB _).mono ?_; rintro e w9 ⟨rfl, hb⟩))
            have M9 := M.more (below_undrew hb)
            clear hb hr M
            go_wp2
            go_roundw
            case rel => exact ⟨x + 1, cs, by omega, by omega, rfl, B2, M9⟩
            case measure => simp [intOf]; omega
          · have B2 := B.on x0 (.inr ⟨hi1, hi2, ht⟩)
            rw [ht] at HBB
            clear ht hon
            have hv := B.ok.at (pos x / 64)
            obtain ⟨q, hqe⟩ : ∃ q, q = pos x := ⟨_, rfl⟩
            rw [← hqe] at HP hq HBB hv B2
            clear hqe
            have hsh := shl_eq q
            go_wp2
            go_region_held3 (fun w' => w'.rangeAt w.heap.size 0 (words bs)) (first | exact range_below (by simpa using hr) hb | (simpa using hr)) (first | (go_at_call 9; refine (HP _).mono ?_; rintro e w' ⟨rfl, hw⟩; subst hw) | (go_at_call 8; refine (HBB _).mono ?_; rintro e w9 ⟨rfl, hb⟩))
            have M9 := M.more (below_undrew hb)
            clear hb hr M
            have cw := M9.want.word lc (q / 64) (by omega)
            have fw := M9.want.thaw (q / 64)
            obtain ⟨v, hve⟩ : ∃ v, v = cs.getD (q / 64) 0 := ⟨_, rfl⟩
            have HV : Hid (v = cs.getD (q / 64) 0) := hve
            rw [← hve] at cw hv
            clear hve hu hi hc1 hcl HBB
            go_wp2_with (first | (go_at_call 9; refine (HP _).mono ?_; rintro e w' ⟨rfl, hw⟩; subst hw) | fail)
            go_roundw
            case rel => exact ⟨x + 1, setB cs q, by omega, by omega, rfl, B2, M9.mark g02 g12 gw hv HV.out⟩
            case measure => simp [intOf]; omega
        · have B2 := B.off (fun hO => by rcases hO with hO | hO; exact hon hO; exact hin ⟨hO.1, hO.2.1⟩)
          clear hon
          by_cases hi1 : x ≤ h
          · exact absurd (show x ≤ h - 1024 by omega) (by omega)
          · exact absurd hx hi1
    · have hxe : x = h + 1 := by omega
      have hcT : cs = T := HEND.out cs (by rw [← hxe]; exact B)
      rw [hcT] at M
      have MG := M.got
      have MW := M.want
      have MB := M.below
      clear hxe hcT B M
      go_wp2_with (first
        | (refine wpList_load_arr_if (.tmp 12) rfl ?_ w2.heap.size T rfl MG lT ?_)
        | (refine wpList_load_arr_if (.tmp 14) rfl (Hid.out ?_) w3.heap.size T rfl MW lT (Hid.out ?_))
        | fail)
      · exact trivial
      unfold Hid
      refine wpList_eql_arr_if (.tmp 105) (.tmp 106) rfl ?_ T ?_ ?_ lT ?_
      · go_simp
      · rfl
      · rfl
      go_wp2
      go_ret
      exact ⟨rfl, MB⟩

/-- THE LAW, WHATEVER THE STATE AND THE NUMBER. -/
theorem model_any (h n : Int) (bs : List Nat) (w : World) (hok : Ok bs) (hh0 : -2147483648 ≤ h) (h1 : h ≤ 2147483647) (n0 : -2147483648 ≤ n) (n1 : n ≤ 2147483647) :
    Calls Try.prog 3 #[.int .i32 h, .agg (words bs).toArray, .int .i32 n] w fun e w' => e = .returned (.bool true) ∧ Below w.heap.size w w' := by
  by_cases c1 : h < 0
  · go_enter Try.func3, Try.ntmps3
    go_wp2
    go_ret
    exact ⟨rfl, (Below.refl _ _).alloc (Nat.le_refl _) _⟩
  have h0 : 0 ≤ h := by omega
  have TK : TakenIs h bs n (!isNew h bs n) := fun w => taken_any h n bs w hok h0 h1 n0 n1
  have D : Gets h bs n (isNew h bs n) (newH h bs n) (newB h bs n) := fun w => zzuse_any h n bs w hok h0 h1 n0 n1
  cases e : isNew h bs n
  · rw [e] at TK D
    rw [(Plain.new_no e).1, (Plain.new_no e).2] at D
    exact model_no h n bs w h0 h1 n0 n1 hok.len TK D
  · have lT := (Plain.ok_new hok h n).len
    have hn := ((Plain.isNew_iff _ _ _).1 e).1
    rw [e] at TK D
    rw [(Plain.new_yes e).1] at D
    by_cases c2 : h < n
    · rw [if_pos c2] at D
      exact model_up h n bs _ w hok h0 h1 (by omega) n1 lT c2 TK D (fun cs B => Plain.built_end (N := n) hok e (by rw [if_pos c2]) B)
    · rw [if_neg c2] at D
      exact model_in h n bs _ w hok h0 h1 (by omega) n1 lT (by omega) TK D (fun cs B => Plain.built_end (N := h) hok e (by rw [if_neg c2]) B)

end Go.Proofs.Qxb6605427a
