/-
  SEAT b6605427a: THE WALK OF (*usedNumbers).use (12) WHERE THE NEW NUMBER LIES LESS THAN 1024 ABOVE THE HIGHEST: the places between are freed one by one.
-/
import Derived.Test.Qxb6605427aUse
namespace Go.Proofs.Qxb6605427a
open Go.RowKit
open Plain (pos tst setB clrB clrTo zeros took isNew newH newB Ok)
set_option linter.unusedVariables false

set_option maxHeartbeats 800000 in
theorem near_walk (B : Nat) (h n : Int) (p z : Nat) (bs : List Nat) (w : World) (hpl : Place n p z) (hw : Holds w B h bs) (hok : Ok bs) (hp : p < 16) (hz : z < 18446744073709551616)
    (h0 : 0 ≤ h) (h1 : h ≤ 2147483647) (hn1 : n ≤ 2147483647) (hn2 : h < n) (hn3 : n - h < 1024) :
    Calls Try.prog 12 #[.pointer (some ⟨B, 0, none⟩), .int .i32 n] w fun e w' => e = .returned (.bool true) ∧ Holds w' B n ((clrTo bs h (n - h - 1).toNat).set p ((clrTo bs h (n - h - 1).toNat).getD p 0 ||| z)) ∧ Kept B w w' := by
  have c0 := hw.high
  go_enter Try.func12, Try.ntmps12
  go_wp2_with (first
    | (go_at_call 13; refine (hpl _).mono ?_; rintro e w' ⟨rfl, nk, rfl⟩)
    | fail)
  go_loopw [7] (fun m wr => ∃ k : Nat, (k : Int) ≤ n - h - 1 ∧ m = .int .i32 (h + 1 + k) ∧ Holds wr B h (clrTo bs h k) ∧ Kept B w wr) (fun m _ => (n - intOf m).toNat)
  case atStart => exact ⟨0, by omega, by go_num, hw.drewN nk, kept_drewN B w nk⟩
  case round =>
    obtain ⟨k, hk, rfl, hwr, hkr⟩ := hrel
    have hokr := hok.clrTo h k
    obtain ⟨cs, hcs⟩ : ∃ cs, cs = clrTo bs h k := ⟨_, rfl⟩
    have HCS : Hid (cs = clrTo bs h k) := hcs
    rw [← hcs] at hwr hokr
    clear hcs
    by_cases hlt : h + 1 + k < n
    · have hpl2 := place_letters (h + 1 + k) (by omega) (by omega)
      have hp2 : pos (h + 1 + k) / 64 < 16 := by have := Plain.pos_lt (h + 1 + k); omega
      have hz2 := Plain.pow_lt (pos (h + 1 + k))
      have hstep : Hid (clrTo bs h (k + 1) = cs.set (pos (h + 1 + k) / 64) (cs.getD (pos (h + 1 + k) / 64) 0 &&& (18446744073709551615 - 2 ^ (pos (h + 1 + k) % 64)))) := by rw [HCS.out]; rfl
      obtain ⟨p2, hp2e⟩ : ∃ p2, p2 = pos (h + 1 + k) / 64 := ⟨_, rfl⟩
      obtain ⟨z2, hz2e⟩ : ∃ z2, z2 = 2 ^ (pos (h + 1 + k) % 64) := ⟨_, rfl⟩
      rw [← hp2e, ← hz2e] at hpl2 hstep
      rw [← hp2e] at hp2
      rw [← hz2e] at hz2
      clear hp2e hz2e
      have cw := hwr.word hokr.len p2 hp2
      have fw := hwr.thaw (1 + p2)
      have hx2 := hokr.at p2
      obtain ⟨x2, hx2e⟩ : ∃ x2, x2 = cs.getD p2 0 := ⟨_, rfl⟩
      rw [← hx2e] at cw hx2 hstep
      clear hx2e
      have han := u64_andNot_nat x2 z2 hx2 hz2
      clear hx2 hz2
      go_wp2_with (first
        | (go_at_call 13; refine (hpl2 _).mono ?_; rintro e w' ⟨rfl, nk2, rfl⟩)
        | fail)
      go_region
      go_wp2
      go_roundw
      case rel => exact ⟨k + 1, by omega, by go_num, by rw [hstep.out]; exact (hwr.drewN (nk2 + 1)).setWord p2 _, hkr.trans ((kept_drewN B wr (nk2 + 1)).trans (kept_setCell B _ (1 + p2) _))⟩
      case measure => simp [intOf]; omega
    · have hkn : Hid (k = (n - h - 1).toNat) := by show k = (n - h - 1).toNat; omega
      have hh := hwr.high
      have fh := hwr.thaw 0
      have cw := hwr.word hokr.len p hp
      have fw := hwr.thaw (1 + p)
      have hx := hokr.at p
      obtain ⟨x, hxe⟩ : ∃ x, x = cs.getD p 0 := ⟨_, rfl⟩
      have HXE : Hid (x = cs.getD p 0) := hxe
      rw [← hxe] at cw hx
      clear hxe
      have hor := u64_or_nat x z hx hz
      go_wp2
      go_region
      go_wp2
      go_ret
      rw [← hkn.out, ← HCS.out, ← HXE.out]
      exact ⟨rfl, (hwr.setHigh n).setWord p (x ||| z), hkr.trans (((kept_setCell B _ 0 _).trans (kept_setCell B _ (1 + p) _)).trans (kept_drew B _))⟩

/-- (*usedNumbers).use, WHATEVER THE STATE AND THE NUMBER. -/
theorem use_any (B : Nat) (h n : Int) (bs : List Nat) (w : World) (hw : Holds w B h bs) (hok : Ok bs) (h0 : 0 ≤ h) (h1 : h ≤ 2147483647) (n0 : -2147483648 ≤ n) (n1 : n ≤ 2147483647) :
    Calls Try.prog 12 #[.pointer (some ⟨B, 0, none⟩), .int .i32 n] w fun e w' => e = .returned (.bool (isNew h bs n)) ∧ Holds w' B (newH h bs n) (newB h bs n) ∧ Kept B w w' := by
  by_cases c1 : n ≤ 0 ∨ n ≤ h - 1024
  · have e : isNew h bs n = false := by
      unfold Plain.isNew
      rcases c1 with c | c
      · rw [decide_eq_false (show ¬ 0 < n by omega)]; rfl
      · rw [decide_eq_false (show ¬ h - 1024 < n by omega), Bool.false_and, Bool.and_false]
    refine (use_low B h n bs w hw h0 h1 n0 n1 c1).mono ?_
    rintro e1 w' ⟨rfl, rfl⟩
    unfold Plain.newH Plain.newB
    rw [e]
    exact ⟨rfl, hw, Kept.refl B w⟩
  have n2 : 0 < n := by omega
  have n3 : h - 1024 < n := by omega
  have hpl := place_letters n n2 n1
  have hp : pos n / 64 < 16 := by have := Plain.pos_lt n; omega
  have hz := Plain.pow_lt (pos n)
  have hj : pos n % 64 < 64 := Nat.mod_lt _ (by decide)
  by_cases c2 : h < n
  · have e : isNew h bs n = true := by
      unfold Plain.isNew
      rw [decide_eq_true n2, decide_eq_true n3, decide_eq_true c2]; rfl
    have eH : newH h bs n = n := by unfold Plain.newH; rw [e, if_pos rfl, if_pos c2]
    have eB : newB h bs n = took h bs n := by unfold Plain.newB; rw [e, if_pos rfl]
    rw [e, eH, eB]
    unfold Plain.took
    rw [if_pos c2]
    by_cases c3 : 1024 ≤ n - h
    · rw [if_pos c3]
      unfold Plain.setB
      rw [zeros_get, Nat.zero_or]
      exact far_walk B h n _ _ bs w hpl hw hok.len hp h0 h1 n1 c2 c3 (by have := u64_or_nat 0 (2 ^ (pos n % 64)) (by decide) hz; rw [Nat.zero_or] at this; exact this)
    · rw [if_neg c3]
      exact near_walk B h n _ _ bs w hpl hw hok hp hz h0 h1 n1 c2 (by omega)
  · have hx := hok.at (pos n / 64)
    have hb := and_test (bs.getD (pos n / 64) 0) (pos n % 64) hx hj
    have ht : tst bs (pos n) = (bs.getD (pos n / 64) 0).testBit (pos n % 64) := rfl
    rw [← ht] at hb
    have e : isNew h bs n = !tst bs (pos n) := by
      unfold Plain.isNew
      rw [decide_eq_true n2, decide_eq_true n3, decide_eq_false c2]; rfl
    cases c4 : tst bs (pos n)
    · rw [c4] at e hb
      have eH : newH h bs n = h := by unfold Plain.newH; rw [e]; simp [c2]
      have eB : newB h bs n = setB bs (pos n) := by unfold Plain.newB Plain.took; rw [e]; simp [c2]
      rw [e, eH, eB]
      refine (fresh_walk B h n _ _ _ w hpl hw.high (hw.word hok.len _ hp) (hw.thaw _) hp h0 h1 n2 n3 (by omega) hb).mono ?_
      rintro e1 w' ⟨rfl, k, rfl⟩
      rw [u64_or_nat _ _ hx hz]
      exact ⟨rfl, (hw.drewN k).setWord _ _, (kept_drewN B w k).trans (kept_setCell B _ _ _)⟩
    · rw [c4] at e hb
      have eH : newH h bs n = h := by unfold Plain.newH; rw [e]; simp
      have eB : newB h bs n = bs := by unfold Plain.newB; rw [e]; simp
      rw [e, eH, eB]
      refine (seen_walk B h n _ _ _ w hpl hw.high (hw.word hok.len _ hp) hp h0 h1 n2 n3 (by omega) hb).mono ?_
      rintro e1 w' ⟨rfl, k, rfl⟩
      exact ⟨rfl, hw.drewN k, kept_drewN B w k⟩

end Go.Proofs.Qxb6605427a
