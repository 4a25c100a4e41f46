/-
  SEAT b6605420a: THE CALLEES' CONTRACTS FOR EVERY SLICE OF STRINGS AT ONCE (nil, empty or not): the address stays a letter; an index is run by 'IsStrs.index'.
-/
import Derived.Test.Qxb6605420aSets
namespace Go.Proofs.Qxb6605420a
open Go.RowKit Go.Maps
open Go.WideMaps (keyOf_string_mk)
set_option linter.unusedVariables false

/-- WHERE THE ELEMENTS LIE, as the walk asks for it: 'xs[k]' for k below the length. -/
theorem IsStrs.index {w : World} {a : Option Addr} {len : Nat} {ss : List ByteArray} (h : IsStrs w a len ss) (cap : Nat) :
    ∃ b off, (∀ (k : Nat) (wx : World), k < len → (Instr.indexAt 22 (.slice a len cap) (.int .i64 k)).run Try.prog wx = .ok (.pointer (some ⟨b, off + k, none⟩)) wx) ∧
      (∀ (w' : World), Below w.heap.size w w' → ∀ j, j < len → w'.cell? ⟨b, off + j, none⟩ = some (.string (ss.getD j ByteArray.empty))) := by
  rcases Nat.eq_zero_or_pos len with h0 | h0
  · subst h0
    exact ⟨0, 0, fun k wx hk => by omega, fun w' hb j hj => by omega⟩
  · obtain ⟨b, off, rfl, hbs, hc⟩ := h.cells h0
    refine ⟨b, off, fun k wx hk => ?_, fun w' hb j hj => (hb.cell (p := ⟨b, off + j, none⟩) hbs).trans (hc j hj)⟩
    have e : Try.prog.underlying 22 = some (.slice (Try.prog.elem 22)) := by kernel_rfl
    have e3 : (sizeOf (Try.prog.elem 22)).run Try.prog wx = .ok 1 wx := by kernel_rfl
    rw [run_indexAt_slice wx 22 _ len cap .i64 k e]
    simp [hk, WideShapes.add_plain, e3, Result.andThen]

theorem IsStrs.kept {w w' : World} {a : Option Addr} {len : Nat} {ss : List ByteArray} (h : IsStrs w a len ss) (hb : Below w.heap.size w w') : IsStrs w' a len ss :=
  ⟨h.length, h.fits, h.most, fun h0 => by
    obtain ⟨b, off, ha, hbs, hc⟩ := h.cells h0
    exact ⟨b, off, ha, Nat.lt_of_lt_of_le hbs hb.size, fun j hj => (hb.cell (p := ⟨b, off + j, none⟩) hbs).trans (hc j hj)⟩⟩

/-- A slice of strings comes back: l, in whatever row (nil only if empty). -/
def RetStrs (w' : World) (e : Ending) (l : List ByteArray) : Prop :=
  ∃ a c, e = .returned (.slice a l.length c) ∧ IsStrs w' a l.length l ∧ (a = none → l.length = 0 ∧ c = 0)

/-- 8: zzCloneStrings. -/
theorem clone_any {w : World} {a : Option Addr} {len : Nat} {ss : List ByteArray} (h : IsStrs w a len ss) (cap : Nat) (hnil : a = none → len = 0 ∧ cap = 0) (h4 : len ≤ 4096) :
    Calls Try.prog 8 #[.slice a len cap] w fun e w' => RetStrs w' e ss ∧ Below w.heap.size w w' := by
  have hl := h.length
  cases a with
  | none =>
    obtain ⟨rfl, rfl⟩ := hnil rfl
    refine (clone_nil w).mono ?_
    rintro e w' ⟨rfl, rfl⟩
    obtain rfl := List.eq_nil_of_length_eq_zero hl
    exact ⟨⟨none, 0, rfl, h, fun _ => ⟨rfl, rfl⟩⟩, Below.refl _ _⟩
  | some x =>
    refine (clone_some x len cap ss w h h4).mono ?_
    rintro e w' ⟨rfl, hrow, hb⟩
    subst hl
    refine ⟨⟨_, _, rfl, ⟨rfl, h.fits, h.most, fun h0 => ⟨_, 0, rfl, (hrow.lt _ rfl).2, fun j hj => ?_⟩⟩, fun e => by cases e⟩, hb⟩
    rw [Nat.zero_add, hrow.cellAt j (by omega), List.getElem?_map, List.getElem?_eq_getElem hj]
    simp [List.getElem?_eq_getElem hj]

/-- 12: ZZdistinct. -/
theorem zzdistinct_any {w : World} {a : Option Addr} {len : Nat} {ss : List ByteArray} (h : IsStrs w a len ss) (cap : Nat) (h8 : len ≤ 8192) :
    Calls Try.prog 12 #[.slice a len cap] w fun e w' => RetStrs w' e (Plain.ded ss) ∧ Below w.heap.size w w' := by
  have hl := h.length
  rcases Nat.eq_zero_or_pos len with h0 | h0
  · subst h0
    obtain rfl := List.eq_nil_of_length_eq_zero hl
    refine (zzdistinct_none a cap w).mono ?_
    rintro e w' ⟨rfl, hb⟩
    exact ⟨⟨none, 0, rfl, ⟨rfl, by simp [Plain.ded], Nat.zero_le _, fun h => by cases h⟩, fun _ => ⟨rfl, rfl⟩⟩, hb⟩
  · obtain ⟨b, off, rfl, hbs, hc⟩ := h.cells h0
    refine (zzdistinct_some b off len cap ss w h0 h8 hl hbs h.fits hc).mono ?_
    rintro e w' ⟨⟨g, c2, rfl, hg1, hg2, hcell⟩, hb⟩
    have hle := Plain.ded_length_le ss
    refine ⟨⟨_, _, rfl, ⟨rfl, fun s hs => h.fits s ((Plain.mem_ded ss s).1 hs), by have := h.most; omega, fun _ => ⟨g, 0, rfl, hg2, fun j hj => by rw [Nat.zero_add]; exact hcell j hj⟩⟩, fun e => by cases e⟩, hb⟩

/-- 13: zzBytes_FnDistinctOfExtensionKeepsPrefix. -/
theorem guard13_any {w : World} {a b : Option Addr} {la lb : Nat} {sa sb : List ByteArray} (ha : IsStrs w a la sa) (hb : IsStrs w b lb sb) (ca cb : Nat) :
    Calls Try.prog 13 #[.slice a la ca, .slice b lb cb] w fun e w' => RetBool e ∧ w = w' := by
  obtain ⟨ba, oa, ia, xa⟩ := ha.index ca
  obtain ⟨bb, ob, ib, xb⟩ := hb.index cb
  have ca := xa w (Below.refl _ _)
  have cb := xb w (Below.refl _ _)
  have ma := ha.most
  have mb := hb.most
  unfold maxLen at ma mb
  clear xa xb ha hb
  go_enter Try.func13, Try.ntmps13
  go_wp2
  · go_ret
    exact ⟨⟨_, rfl⟩, rfl⟩
  go_loop [5, 6] (fun t i => ∃ (k : Nat) (n : Int), k ≤ la ∧ i = .int .i64 k ∧ t = .int .i64 n) (fun _ i => la - (intOf i).toNat)
  case atStart => exact ⟨0, _, Nat.zero_le _, rfl, rfl⟩
  case round =>
    obtain ⟨k, n, hk, rfl, rfl⟩ := hrel
    by_cases hlt : k < la
    · have hcell := ca k hlt
      go_wp2
      · go_ret
        exact ⟨⟨_, rfl⟩, rfl⟩
      · go_ret
        exact ⟨⟨_, rfl⟩, rfl⟩
      · go_round
        case rel => exact ⟨k + 1, _, by omega, by go_num, rfl⟩
        case measure => simp [intOf]; omega
    · clear ca ia
      go_wp2
      · go_ret
        exact ⟨⟨_, rfl⟩, rfl⟩
      · go_ret
        exact ⟨⟨_, rfl⟩, rfl⟩
      go_loop [5, 7] (fun t i => ∃ (k : Nat) (n : Int), k ≤ lb ∧ i = .int .i64 k ∧ t = .int .i64 n) (fun _ i => lb - (intOf i).toNat)
      case atStart => exact ⟨0, _, Nat.zero_le _, rfl, rfl⟩
      case round =>
        obtain ⟨k2, n2, hk2, rfl, rfl⟩ := hrel
        by_cases hlt2 : k2 < lb
        · have hcell := cb k2 hlt2
          go_wp2
          · go_ret
            exact ⟨⟨_, rfl⟩, rfl⟩
          · go_ret
            exact ⟨⟨_, rfl⟩, rfl⟩
          · go_round
            case rel => exact ⟨k2 + 1, _, by omega, by go_num, rfl⟩
            case measure => simp [intOf]; omega
        · go_wp2
          go_ret
          exact ⟨⟨_, rfl⟩, rfl⟩

end Go.Proofs.Qxb6605420a
