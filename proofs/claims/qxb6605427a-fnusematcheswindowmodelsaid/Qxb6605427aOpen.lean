/-
  SEAT b6605427a: A [16]uint64 THAT CAME IN BY VALUE, OPENED AS THE WALKS WANT IT.
-/
import Derived.Test.Qxb6605427aUse
import Derived.ProofKit
import Derived.OpenShut
namespace Go.Proofs.Qxb6605427a
open Go.ChangeShapes Go.WideShapes Go.ChangeAt Go.RowKit

theorem own : ownKnob Try.prog.godebug = none := by kernel_rfl
theorem laidOut : laidOutB Try.prog = true := by kernel_rfl
theorem Try.cells22 : Try.prog.cellsOf 22 = 1 := by kernel_rfl
theorem Try.cells23 : Try.prog.cellsOf 23 = 16 := by kernel_rfl

def natOf : Value → Nat | .int _ z => z.toNat | _ => 0

theorem u64_of_wf {z : Int} (h : (Lit.int .u64 z).wf = true) : 0 ≤ z ∧ z < 18446744073709551616 := by
  have := bounds_u64 h
  omega

theorem open_words {H : Type} {enc : TypeId × Value → H} {W : World} {base : Nat} {v : Value} {d : DataW H} {p : List MemPlace}
    (hv : Value.okWide Try.prog W .any base 23 v) (h : DataW.Trod enc Try.prog W 0 (fun _ => true) true 23 v d p) :
    ∃ bs, v = .agg (words bs).toArray ∧ Plain.Ok bs := by
  have hv2 := hv
  simp only [Value.okWide, Try.underlying23] at hv2
  obtain ⟨cs, rfl, hsz, _⟩ := hv2
  rw [Try.cells23] at hsz
  obtain ⟨fuel, hf⟩ := h
  obtain ⟨xs, m, _, _, hcl, hxl, hx⟩ := DataW.trod_array Try.underlying23 hf
  have each : ∀ i, i < 16 → ∃ z : Nat, cs.toList[i]? = some (.int .u64 (z : Int)) ∧ z < 18446744073709551616 := by
    intro i hi
    have h1 := hx i hi
    rw [Try.cells22, Nat.mul_one, List.getElem?_eq_getElem (by omega)] at h1
    obtain ⟨z, hz, _, hw⟩ := DataW.trod_int Try.underlying22 h1
    have hb := u64_of_wf hw
    refine ⟨z.toNat, ?_, by omega⟩
    have e : cs.toList[i]? = some (.int .u64 z) := by
      have h2 : ((List.drop i cs.toList).take 1)[0]? = some (.int .u64 z) := by
        have h3 : (List.take 1 (List.drop i (Value.agg cs).cells.toList)) = [.int .u64 z] := hz
        simp only [Value.cells] at h3
        rw [h3]; rfl
      simpa using h2
    rw [e]
    have : ((z.toNat : Nat) : Int) = z := by omega
    rw [this]
  refine ⟨cs.toList.map natOf, ?_, ?_, ?_⟩
  · have e : words (cs.toList.map natOf) = cs.toList := by
      apply List.ext_getElem?
      intro i
      unfold words
      rw [List.getElem?_map, List.getElem?_map]
      by_cases hi : i < 16
      · obtain ⟨z, hz, _⟩ := each i hi
        rw [hz]
        simp [natOf]
      · have hn : cs.toList[i]? = none := by rw [List.getElem?_eq_none_iff]; simp; omega
        rw [hn]; rfl
    rw [e]
  · simp [hsz]
  · intro z hz
    obtain ⟨u, hu, rfl⟩ := List.mem_map.1 hz
    obtain ⟨i, hi⟩ := List.getElem?_of_mem hu
    have hil := (List.getElem?_eq_some_iff.1 hi).1
    obtain ⟨y, hy, hlt⟩ := each i (by simpa [hsz] using hil)
    rw [hi] at hy
    cases hy
    simpa [natOf] using hlt

theorem i32_of_wf {z : Int} (h : (Lit.int .i32 z).wf = true) : -2147483648 ≤ z ∧ z ≤ 2147483647 := by
  have := bounds_i32 h
  omega

end Go.Proofs.Qxb6605427a
