/-
  SEAT b6605427a: THE WALKS OF place (13), zzPos (9).
-/
import Derived.Test.Qxb6605427aRows
import Derived.Test.Qxb6605427aPlain
import Derived.WalkKit
import Derived.WalkSpells
import Derived.WalkLawsBesides
import Derived.Deep.QuietTactic
import Derived.BigQuiet
import Derived.Deep.MidRow
namespace Go.Proofs.Qxb6605427a
open Go.RowKit
set_option linter.unusedVariables false

theorem word_eq (n : Int) (h0 : 0 < n) : n % 1024 / 64 = ((Plain.pos n / 64 : Nat) : Int) := by unfold Plain.pos; omega
theorem bit_eq (n : Int) (h0 : 0 < n) : IntKind.u64.wrap (2 ^ (n % 64).toNat) = ((2 ^ (Plain.pos n % 64) : Nat) : Int) := by
  have e : (n % 64).toNat = Plain.pos n % 64 := by unfold Plain.pos; omega
  have hl := Plain.pow_lt (Plain.pos n)
  have e2 : (2 : Int) ^ (Plain.pos n % 64) = ((2 ^ (Plain.pos n % 64) : Nat) : Int) := by simp
  rw [e, IntKind.wrap_u64, e2]
  generalize 2 ^ (Plain.pos n % 64) = z at hl
  omega

set_option maxHeartbeats 400000 in
theorem place_any (n : Int) (w : World) (h0 : 0 < n) (h1 : n ≤ 2147483647) :
    Calls Try.prog 13 #[.int .i32 n] w fun e w' => e = .returned (.tuple #[.int .i64 ((Plain.pos n / 64 : Nat) : Int), .int .u64 ((2 ^ (Plain.pos n % 64) : Nat) : Int)]) ∧ ∃ k, w' = w.drewN k := by
  go_enter Try.func13, Try.ntmps13
  go_wp2
  go_quiet (fail)
  go_wp2
  go_ret2
  refine ⟨?_, nq, rfl⟩
  rw [← word_eq n h0, ← bit_eq n h0]
  rfl

theorem i64_and1023 (n : Int) : bits .and .i64 n 1023 = n % 1024 := by
  have h1023 : (BitVec.ofInt 64 1023).toNat = 2 ^ 10 - 1 := by decide
  have key : (BitVec.ofInt 64 n &&& BitVec.ofInt 64 1023).toNat = (n % ((2 ^ 64 : Nat) : Int)).toNat % 2 ^ 10 := by
    rw [BitVec.toNat_and, BitVec.toNat_ofInt, h1023, Nat.and_two_pow_sub_one_eq_mod]
  show IntKind.i64.wrap ((BitVec.ofInt 64 n &&& BitVec.ofInt 64 1023).toNat : Nat) = n % 1024
  rw [key, IntKind.wrap_i64]
  omega
theorem pos_eq (n : Int) : n % 1024 = (Plain.pos n : Nat) := by unfold Plain.pos; omega

set_option maxHeartbeats 400000 in
theorem zzPos_any (n : Int) (w : World) (h0 : -9223372036854775808 ≤ n) (h1 : n ≤ 9223372036854775807) :
    Calls Try.prog 9 #[.int .i64 n] w fun e w' => e = .returned (.int .i64 (Plain.pos n : Nat)) ∧ w = w' := by
  go_enter Try.func9, Try.ntmps9
  go_wp2
  go_ret
  rw [i64_and1023]
  exact ⟨by rw [pos_eq]; rfl, rfl⟩

end Go.Proofs.Qxb6605427a
