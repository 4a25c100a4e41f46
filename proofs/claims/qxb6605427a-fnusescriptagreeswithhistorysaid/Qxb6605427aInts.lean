/-
  SEAT b6605427a: SLICES OF int32: what the walks are told of one; zzIn (11); the guard of FnUseScriptAgreesWithHistory (10).
-/
import Derived.Test.Qxb6605427aArr
namespace Go.Proofs.Qxb6605427a
open Go.RowKit
set_option linter.unusedVariables false

structure IsI32s (w : World) (a : Option Addr) (len : Nat) (zs : List Int) : Prop where
  length : zs.length = len
  fits : ∀ z ∈ zs, -2147483648 ≤ z ∧ z ≤ 2147483647
  most : len ≤ maxLen
  cells : 0 < len → ∃ b off, a = some ⟨b, off, none⟩ ∧ b < w.heap.size ∧ ∀ j, j < len → w.cell? ⟨b, off + j, none⟩ = some (.int .i32 (zs.getD j 0))

theorem IsI32s.index {w : World} {a : Option Addr} {len : Nat} {zs : List Int} (h : IsI32s w a len zs) (cap : Nat) :
    ∃ b off, (∀ (k : Nat) (wx : World), k < len → (Instr.indexAt 31 (.slice a len cap) (.int .i64 k)).run Try.prog wx = .ok (.pointer (some ⟨b, off + k, none⟩)) wx) ∧
      (∀ (w' : World), Below w.heap.size w w' → ∀ j, j < len → w'.cell? ⟨b, off + j, none⟩ = some (.int .i32 (zs.getD j 0))) := by
  rcases Nat.eq_zero_or_pos len with h0 | h0
  · subst h0
    exact ⟨0, 0, fun k wx hk => by omega, fun w' hb j hj => by omega⟩
  · obtain ⟨b, off, rfl, hbs, hc⟩ := h.cells h0
    refine ⟨b, off, fun k wx hk => ?_, fun w' hb j hj => (hb.cell (p := ⟨b, off + j, none⟩) hbs).trans (hc j hj)⟩
    have e : Try.prog.underlying 31 = some (.slice (Try.prog.elem 31)) := by kernel_rfl
    have e3 : (sizeOf (Try.prog.elem 31)).run Try.prog wx = .ok 1 wx := by kernel_rfl
    rw [run_indexAt_slice wx 31 _ len cap .i64 k e]
    simp [hk, WideShapes.add_plain, e3, Result.andThen]

theorem fit_at {zs : List Int} (h : ∀ z ∈ zs, -2147483648 ≤ z ∧ z ≤ 2147483647) (k : Nat) : -2147483648 ≤ zs.getD k 0 ∧ zs.getD k 0 ≤ 2147483647 := by
  by_cases hk : k < zs.length
  · rw [List.getD, List.getElem?_eq_getElem hk]
    exact h _ (List.getElem_mem hk)
  · rw [List.getD, List.getElem?_eq_none (by omega)]
    decide

def RetBool (e : Ending) : Prop := ∃ r : Bool, e = .returned (.bool r)

set_option maxHeartbeats 400000 in
theorem guard10_any (a : Option Addr) (len cap : Nat) (w : World) (hm : len ≤ maxLen) :
    Calls Try.prog 10 #[.slice a len cap] w fun e w' => RetBool e ∧ w = w' := by
  unfold maxLen at hm
  go_enter Try.func10, Try.ntmps10
  go_wp2
  all_goals
    go_ret
    exact ⟨⟨_, rfl⟩, rfl⟩

theorem in_at {acc : List Int} {x : Int} {k : Nat} (hk : k < acc.length) (h : acc.getD k 0 = x) : x ∈ acc := by
  rw [List.getD, List.getElem?_eq_getElem hk] at h
  subst h
  exact List.getElem_mem hk
theorem not_in {acc : List Int} {x : Int} (h : ∀ j, j < acc.length → acc.getD j 0 ≠ x) : ¬ x ∈ acc := fun hx => by
  obtain ⟨j, hj, e⟩ := List.getElem_of_mem hx
  exact h j hj (by rw [List.getD, List.getElem?_eq_getElem hj]; exact e)

/-- None of the first k is x. -/
def NotYet (acc : List Int) (x : Int) (k : Nat) : Prop := ∀ j, j < k → acc.getD j 0 ≠ x

set_option maxHeartbeats 400000 in
theorem zzIn_any (g cap : Nat) (acc : List Int) (x : Int) (w : World) (hl : acc.length ≤ 4096) (hc : ∀ j, j < acc.length → w.cell? ⟨g, j, none⟩ = some (.int .i32 (acc.getD j 0))) :
    Calls Try.prog 11 #[.slice (some ⟨g, 0, none⟩) acc.length cap, .int .i32 x] w fun e w' => e = .returned (.bool (decide (x ∈ acc))) ∧ w = w' := by
  obtain ⟨n, hn⟩ : ∃ n, n = acc.length := ⟨_, rfl⟩
  have HN : Hid (n = acc.length) := hn
  rw [← hn] at hl hc ⊢
  have HC := (show Hid _ from hc)
  clear hn hc
  go_enter Try.func11, Try.ntmps11
  go_wp2
  go_loop [5] (fun i => ∃ k : Nat, k ≤ n ∧ i = .int .i64 k ∧ NotYet acc x k) (fun i => n - (intOf i).toNat)
  case atStart => exact ⟨0, Nat.zero_le _, rfl, fun j hj => by omega⟩
  case round =>
    obtain ⟨k, hk, rfl, hny⟩ := hrel
    by_cases hlt : k < n
    · have hcell := HC.out k hlt
      obtain ⟨z, hz⟩ : ∃ z, z = acc.getD k 0 := ⟨_, rfl⟩
      have HZ : Hid (z = acc.getD k 0) := hz
      rw [← hz] at hcell
      clear hz
      by_cases hzx : z = x
      · have hb : (z == x) = true := beq_iff_eq.2 hzx
        have hin : x ∈ acc := in_at (by rw [← HN.out]; exact hlt) (by rw [← HZ.out]; exact hzx)
        have HIN : Hid (x ∈ acc) := hin
        clear hzx hin
        go_wp2
        go_ret
        exact ⟨by rw [decide_eq_true HIN.out]; rfl, rfl⟩
      · have hb : (z == x) = false := beq_eq_false_iff_ne.2 hzx
        clear hzx
        go_wp2
        go_round
        case rel => exact ⟨k + 1, by omega, by go_num, fun j hj => by
          by_cases e : j = k
          · subst e; rw [← HZ.out]; exact beq_eq_false_iff_ne.1 hb
          · exact hny j (by omega)⟩
        case measure => simp [intOf]; omega
    · have hno : Hid (¬ x ∈ acc) := not_in (fun j hj => hny j (by rw [← HN.out] at hj; omega))
      go_wp2
      go_ret
      exact ⟨by rw [decide_eq_false hno.out]; rfl, rfl⟩

end Go.Proofs.Qxb6605427a
