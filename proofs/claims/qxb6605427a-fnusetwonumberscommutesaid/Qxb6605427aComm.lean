/-
  SEAT b6605427a: THE WALK OF FnUseTwoNumbersCommute (5).
-/
import Derived.Test.Qxb6605427aArr
import Derived.Test.Qxb6605427aSwap
namespace Go.Proofs.Qxb6605427a
open Go.RowKit
open Plain (pos tst setB clrB clrTo zeros took isNew newH newB Ok)
set_option linter.unusedVariables false

/-- What ZZUse does at one state and number, in letters. -/
def Uses (h : Int) (bs : List Nat) (n : Int) (r : Bool) (h' : Int) (bs' : List Nat) : Prop :=
  ∀ w : World, Calls Try.prog 7 #[.int .i32 h, .agg (words bs).toArray, .int .i32 n] w fun e w' => e = .returned (.tuple #[.bool r, .int .i32 h', .agg (words bs').toArray]) ∧ Below w.heap.size w w'

set_option maxRecDepth 100000 in
set_option maxHeartbeats 1000000 in
theorem comm_walk (h a b hA hB H : Int) (bs sA sB T : List Nat) (ra rb : Bool) (w : World) (h0 : 0 ≤ h) (h1 : h ≤ 2147483647) (a0 : -2147483648 ≤ a) (a1 : a ≤ 2147483647) (b0 : -2147483648 ≤ b) (b1 : b ≤ 2147483647)
    (hne : (a == b) = false) (d1 : a - b < 1024) (d2 : -1024 < a - b)
    (u1 : Uses h bs a ra hA sA) (u2 : Uses hA sA b rb H T) (u3 : Uses h bs b rb hB sB) (u4 : Uses hB sB a ra H T) (u5 : Uses H T a false H T) (u6 : Uses H T b false H T)
    (l0 : bs.length = 16) (lA : sA.length = 16) (lB : sB.length = 16) (lT : T.length = 16) (GA : Hid (h < a → ra = true)) (GB : Hid (h < b → rb = true)) :
    Calls Try.prog 5 #[.int .i32 h, .agg (words bs).toArray, .int .i32 a, .int .i32 b] w fun e w' => e = .returned (.bool true) ∧ Below w.heap.size w w' := by
  go_enter Try.func5, Try.ntmps5
  go_wp2_with (first | (refine wpList_load_arr (.tmp 5) rfl rfl w.heap.size bs rfl (arr_new w bs) l0 ?_) | fail)
  refine (u1 _).mono ?_
  rintro e w1 ⟨rfl, hb1⟩
  have A1 := (arr_new w bs).kept hb1
  have B1 : Below w.heap.size w w1 := ((Below.refl _ _).alloc (Nat.le_refl _) _).trans (hb1.mono (by simp))
  clear hb1
  go_wp2_with (first | (refine wpList_store_arr (.tmp 12) _ rfl rfl _ _ rfl sA rfl rfl rfl lA ?_; intro w2 A2 hb2) | (refine wpList_load_arr (.tmp 12) rfl rfl w1.heap.size sA rfl A2 lA ?_) | fail)
  have C2 := A1.kept hb2
  have B2 := B1.trans (hb2.mono B1.size)
  clear hb2 A1
  refine (u2 _).mono ?_
  rintro e w3 ⟨rfl, hb3⟩
  have C3 := C2.kept hb3
  have B3 := B2.trans (hb3.mono B2.size)
  clear hb3 C2
  go_wp2_with (first | (refine wpList_store_arr (.tmp 15) _ rfl rfl _ _ rfl T rfl rfl rfl lT ?_; intro w4 T4 hb4; have C4 := C3.kept hb4) | (refine wpList_load_arr (.tmp 5) rfl rfl w.heap.size bs rfl C4 l0 ?_) | fail)
  have B4 := B3.trans (hb4.mono B3.size)
  clear hb4 C3
  refine (u3 _).mono ?_
  rintro e w5 ⟨rfl, hb5⟩
  have T5 := T4.kept hb5
  have B5 := B4.trans (hb5.mono B4.size)
  clear hb5 T4
  go_wp2_with (first | (refine wpList_store_arr (.tmp 18) _ rfl rfl _ _ rfl sB rfl rfl rfl lB ?_; intro w6 D6 hb6) | (refine wpList_load_arr (.tmp 18) rfl rfl w5.heap.size sB rfl D6 lB ?_) | fail)
  have T6 := T5.kept hb6
  have B6 := B5.trans (hb6.mono B5.size)
  clear hb6 T5
  refine (u4 _).mono ?_
  rintro e w7 ⟨rfl, hb7⟩
  have T7 := T6.kept hb7
  have B7 := B6.trans (hb7.mono B6.size)
  clear hb7 T6 D6
  go_wp2_with (first
    | (refine wpList_store_arr (.tmp 21) _ rfl rfl _ _ rfl T rfl rfl rfl lT ?_; intro w8 E8 hb8; have T8 := T7.kept hb8; have B8 := B7.trans (hb8.mono B7.size); clear hb8)
    | (refine wpList_load_arr_if (.tmp 15) rfl ?hw w3.heap.size T rfl T8 lT ?_)
    | (refine wpList_load_arr_if (.tmp 21) rfl (Hid.out ?_) w7.heap.size T rfl E8 lT (Hid.out ?_))
    | fail)
  · exact trivial
  unfold Hid
  refine wpList_neq_arr_if (.tmp 90) (.tmp 91) rfl ?_ T ?_ ?_ lT ?_
  · go_simp
  · rfl
  · rfl
  clear u1 u2 u3 u4 B1 B2 B3 B4 B5 B6 B7 A2 C4 l0 lA lB T7 E8
  have key : (h < a ∧ ra = true ∨ a ≤ h) ∧ (h < b ∧ rb = true ∨ b ≤ h) := by
    refine ⟨?_, ?_⟩
    · by_cases c : h < a
      · exact .inl ⟨c, GA.out c⟩
      · exact .inr (by omega)
    · by_cases c : h < b
      · exact .inl ⟨c, GB.out c⟩
      · exact .inr (by omega)
  clear GA GB
  rcases key with ⟨⟨ca, rfl⟩ | ca, ⟨cb, rfl⟩ | cb⟩
  all_goals
    go_wp2_with (first | (refine wpList_load_arr (.tmp 15) rfl rfl w3.heap.size T rfl T8 lT ?_) | fail)
    refine (u5 _).mono ?_
    rintro e w9 ⟨rfl, hb9⟩
    have T9 := T8.kept hb9
    have B9 := B8.trans (hb9.mono B8.size)
    clear hb9 T8 B8
    go_wp2_with (first | (refine wpList_store_arr (.tmp 24) _ rfl rfl _ _ rfl T rfl rfl rfl lT ?_; intro w10 F10 hb10) | (refine wpList_load_arr (.tmp 24) rfl rfl w9.heap.size T rfl F10 lT ?_) | fail)
    have T10 := T9.kept hb10
    have B10 := B9.trans (hb10.mono B9.size)
    clear hb10 T9 B9
    refine (u6 _).mono ?_
    rintro e w11 ⟨rfl, hb11⟩
    have T11 := T10.kept hb11
    have B11 := B10.trans (hb11.mono B10.size)
    clear hb11 T10 B10 F10
    go_wp2_with (first
      | (refine wpList_store_arr (.tmp 27) _ rfl rfl _ _ rfl T rfl rfl rfl lT ?_; intro w12 G12 hb12; have T12 := T11.kept hb12; have B12 := B11.trans (hb12.mono B11.size); clear hb12)
      | (refine wpList_load_arr_if (.tmp 27) rfl ?_ w11.heap.size T rfl G12 lT ?_)
      | (refine wpList_load_arr_if (.tmp 15) rfl (Hid.out ?_) w3.heap.size T rfl T12 lT (Hid.out ?_))
      | fail)
    · exact trivial
    unfold Hid
    refine wpList_eql_arr_if (.tmp 136) (.tmp 137) rfl ?_ T ?_ ?_ lT ?_
    · go_simp
    · rfl
    · rfl
    go_wp2
    go_ret
    exact ⟨rfl, B12⟩

/-- THE LAW, WHATEVER THE STATE AND THE TWO NUMBERS. -/
theorem comm_any (h a b : Int) (bs : List Nat) (w : World) (hok : Ok bs) (hh0 : -2147483648 ≤ h) (h1 : h ≤ 2147483647) (a0 : -2147483648 ≤ a) (a1 : a ≤ 2147483647) (b0 : -2147483648 ≤ b) (b1 : b ≤ 2147483647) :
    Calls Try.prog 5 #[.int .i32 h, .agg (words bs).toArray, .int .i32 a, .int .i32 b] w fun e w' => e = .returned (.bool true) ∧ Below w.heap.size w w' := by
  by_cases c1 : h < 0
  · go_enter Try.func5, Try.ntmps5
    go_wp2
    go_ret
    exact ⟨rfl, (Below.refl _ _).alloc (Nat.le_refl _) _⟩
  by_cases c2 : a = b
  · have hb : (a == b) = true := beq_iff_eq.2 c2
    have c1' : 0 ≤ h := by omega
    clear c2
    go_enter Try.func5, Try.ntmps5
    go_wp2
    go_ret
    exact ⟨rfl, (Below.refl _ _).alloc (Nat.le_refl _) _⟩
  have c2' : (a == b) = false := beq_eq_false_iff_ne.2 c2
  by_cases c3 : 1024 ≤ a - b
  · have c1' : 0 ≤ h := by omega
    clear c2
    go_enter Try.func5, Try.ntmps5
    go_wp2
    go_ret
    exact ⟨rfl, (Below.refl _ _).alloc (Nat.le_refl _) _⟩
  by_cases c4 : a - b ≤ -1024
  · have c1' : 0 ≤ h := by omega
    clear c2
    go_enter Try.func5, Try.ntmps5
    go_wp2
    go_ret
    exact ⟨rfl, (Below.refl _ _).alloc (Nat.le_refl _) _⟩
  have h0 : 0 ≤ h := by omega
  have d1 : a - b < 1024 := by omega
  have d2 : b - a < 1024 := by omega
  have okA := Plain.ok_new hok h a
  have okB := Plain.ok_new hok h b
  have okT := Plain.ok_new okA (newH h bs a) b
  have bA := Plain.newH_bounds h bs a h0 h1 a1
  have bB := Plain.newH_bounds h bs b h0 h1 b1
  have bT := Plain.newH_bounds (newH h bs a) (newB h bs a) b bA.1 bA.2 b1
  have s1 := Plain.still_new hok h a b h0 c2 d1 d2
  have s2 := Plain.still_new hok h b a h0 (fun e => c2 e.symm) d2 d1
  obtain ⟨cH, cB⟩ := Plain.commute hok h a b h0 c2 d1 d2
  have t1 := Plain.taken okB (newH h bs b) a
  have t2 := Plain.taken okA (newH h bs a) b
  rw [← cH, ← cB] at t1
  have u1 : Uses h bs a (isNew h bs a) (newH h bs a) (newB h bs a) := fun w => zzuse_any h a bs w hok h0 h1 a0 a1
  have u2 : Uses (newH h bs a) (newB h bs a) b (isNew h bs b) (newH (newH h bs a) (newB h bs a) b) (newB (newH h bs a) (newB h bs a) b) := fun w => by
    have := zzuse_any (newH h bs a) b (newB h bs a) w okA bA.1 bA.2 b0 b1
    rw [s2] at this
    exact this
  have u3 : Uses h bs b (isNew h bs b) (newH h bs b) (newB h bs b) := fun w => zzuse_any h b bs w hok h0 h1 b0 b1
  have u4 : Uses (newH h bs b) (newB h bs b) a (isNew h bs a) (newH (newH h bs a) (newB h bs a) b) (newB (newH h bs a) (newB h bs a) b) := fun w => by
    have := zzuse_any (newH h bs b) a (newB h bs b) w okB bB.1 bB.2 a0 a1
    rw [s1, ← cH, ← cB] at this
    exact this
  have u5 : Uses (newH (newH h bs a) (newB h bs a) b) (newB (newH h bs a) (newB h bs a) b) a false (newH (newH h bs a) (newB h bs a) b) (newB (newH h bs a) (newB h bs a) b) := fun w => by
    have := zzuse_any (newH (newH h bs a) (newB h bs a) b) a (newB (newH h bs a) (newB h bs a) b) w okT bT.1 bT.2 a0 a1
    rw [t1, (Plain.new_no t1).1, (Plain.new_no t1).2] at this
    exact this
  have u6 : Uses (newH (newH h bs a) (newB h bs a) b) (newB (newH h bs a) (newB h bs a) b) b false (newH (newH h bs a) (newB h bs a) b) (newB (newH h bs a) (newB h bs a) b) := fun w => by
    have := zzuse_any (newH (newH h bs a) (newB h bs a) b) b (newB (newH h bs a) (newB h bs a) b) w okT bT.1 bT.2 b0 b1
    rw [t2, (Plain.new_no t2).1, (Plain.new_no t2).2] at this
    exact this
  exact comm_walk h a b _ _ _ bs _ _ _ _ _ w h0 h1 a0 a1 b0 b1 c2' d1 (by omega) u1 u2 u3 u4 u5 u6 hok.len okA.len okB.len okT.len (fun c => Plain.new_above h a h0 c) (fun c => Plain.new_above h b h0 c)

end Go.Proofs.Qxb6605427a
