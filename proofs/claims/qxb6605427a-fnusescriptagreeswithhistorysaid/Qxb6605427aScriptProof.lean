/-
  SEAT b6605427a: 'Rows.FnUseScriptAgreesWithHistorySaid', PROVED: the row's step over the walk (Qxb6605427aScript.lean).
-/
import Derived.Test.Qxb6605427aScript
import Derived.Test.Qxb6605427aOpen
import Derived.ProofKit
import Derived.OpenShut
import Derived.ShutString
import Derived.ChangeOld
namespace Go.Proofs.Qxb6605427a.script
open Go.ChangeShapes Go.WideShapes Go.ChangeAt Go.RowKit
set_option linter.unusedVariables false

theorem Try.cells21 : Try.prog.cellsOf 21 = 1 := by kernel_rfl

theorem open_i32s_row {H : Type} {enc : TypeId × Value → H} {W : World} {a : Option Addr} {len cap : Nat} {d : DataW H} {p : List MemPlace}
    (h : DataW.Trod enc Try.prog W 0 (fun _ => true) true 31 (.slice a len cap) d p) :
    ∃ zs, IsI32s W a len zs ∧ (a = none → len = 0 ∧ cap = 0) := by
  obtain ⟨fuel, hf⟩ := h
  rcases open_ints Try.underlying31 Try.underlying21 Try.cells21 hf with ⟨hcs, _⟩ | ⟨x, l, c, zs, hcs, _, hl, hm, hz, _, hcell, hwz⟩
  · simp [Value.cells] at hcs
    obtain ⟨rfl, rfl, rfl⟩ := hcs
    exact ⟨[], ⟨rfl, by simp, Nat.zero_le _, fun h => by cases h⟩, fun _ => ⟨rfl, rfl⟩⟩
  · simp [Value.cells] at hcs
    obtain ⟨rfl, rfl, rfl⟩ := hcs
    simp only [if_true] at hz
    refine ⟨zs.take len, ⟨by simp; omega, fun s hs => i32_of_wf (hwz s (List.mem_of_mem_take hs)), by omega, ?_⟩, fun h => by cases h⟩
    intro h0
    obtain ⟨b, off, spot⟩ := x
    have c0 := hcell 0 (by omega)
    have hspot : spot = none := by simpa [Addr.add] using World.cell?_spot c0
    subst hspot
    refine ⟨b, off, rfl, World.block_lt_of_cell? _ _ c0, ?_⟩
    intro j hj
    have := hcell j (by omega)
    rw [add_plain] at this
    rw [this]
    simp [hj]

/-- THE LAW, WHATEVER THE SLICE. -/
theorem script_any (a : Option Addr) (len cap : Nat) (zs : List Int) (w : World) (hs : IsI32s w a len zs) (hnil : a = none → len = 0 ∧ cap = 0) :
    Calls Try.prog 4 #[.slice a len cap] w fun e w' => e = .returned (.bool true) ∧ Below w.heap.size w w' := by
  by_cases hbig : 4096 < len
  · exact script_big a len cap w hs.most hbig
  · cases a with
    | none =>
      obtain ⟨rfl, rfl⟩ := hnil rfl
      exact script_nil w
    | some x => exact script_some x len cap zs w hs (by omega)

set_option maxRecDepth 100000 in
theorem lifted (os : Os) (started : os.Started) (H : Type) (enc : TypeId × Value → H) :
    ReturnsInHanded {} Try.checked os 4 .any (Rows.fnUseScriptAgreesWithHistorySpec.pre6 enc Try.prog Try.f4 Rows.fnUseScriptAgreesWithHistoryRow.domain false) (Rows.fnUseScriptAgreesWithHistorySpec.post enc Try.prog Try.f4 false true false false) := by
  refine returnsInHanded_of_change (C := Try.checked) own started (by kernel_rfl) Try.func4
    (ChangeSpec.witness6 (enc := enc) (C := Try.checked) false ⟨#[], #[.slice none 0 0], []⟩ 8 (by kernel_rfl) (by kernel_rfl) (by kernel_rfl) (by kernel_rfl)) ?_
  intro W base args ds gs before hval0 hW hcnd _
  have hval : ∀ (j : Nat) t v, Try.f4.params[j]? = some t → args[j]? = some v → Value.okWide Try.prog W .any base t v := hval0
  have hW' := hW
  obtain ⟨p, q, hA0, hV, rfl, hfz, hnd⟩ := hW
  have hA : DataW.TrodAll enc Try.prog W 0 (fun _ => true) true Try.f4.params.toList args.toList ds p := hA0
  rw [Try.params4] at hA hval
  obtain ⟨v0, vs0, d0, ds0, p0, q0, hargs, rfl, rfl, h0, r0⟩ := trodAll_cons hA
  obtain ⟨rfl, rfl, rfl⟩ := trodAll_nil r0
  obtain rfl : args = #[v0] := by cases args; simp_all
  obtain ⟨rfl, rfl⟩ := trodVars_none hV
  obtain ⟨a0, len0, cap0, rfl⟩ := okWide_slice Try.underlying31 (hval 0 31 v0 rfl rfl)
  have k0 := h0
  have lt0 : ∀ x ∈ p0, x.block < W.heap.size := by obtain ⟨m, hm⟩ := k0; exact DataW.trod_lt m _ _ _ hm
  obtain ⟨z0, w0, n0⟩ := open_i32s_row h0
  clear hA0 hval0
  refine (script_any a0 len0 cap0 z0 W w0 n0).mono fun e W' ⟨he, bel⟩ => ?_
  subst he
  exact ⟨_, rfl, _, _, _, [], _, [], hW', trodAll_mk1 (shut_bool Try.underlying4 _), (trodAll_cons_mk (Below.trod laidOut (by kernel_rfl) (of_decide_eq_true (by kernel_rfl)) k0 bel lt0) trodAll_mk0), rfl, bel.frame _, fun h => by cases h⟩

theorem over : Rows.fnUseScriptAgreesWithHistoryRow.holds Try.pinned (OpenSpec.ofChange Rows.fnUseScriptAgreesWithHistorySpec) :=
  OpenClaim.holds_of_wide 4 Try.f4 rfl rfl rfl rfl rfl rfl rfl ⟨rfl, rfl, rfl, rfl, rfl⟩ rfl rfl rfl rfl rfl (by kernel_rfl) Try.func4 (by kernel_rfl)
    (of_decide_eq_true (by kernel_rfl)) (by unfold Func.isWrapper; first | (rw [if_pos (by decide +kernel)]; kernel_rfl) | (rw [if_neg (by decide +kernel)]; exact ⟨rfl, rfl⟩))
    (fun os started H enc _ => lifted os started H enc)
end Go.Proofs.Qxb6605427a.script

namespace Go.Proofs.Qxb6605427a
/-- THE STATEMENT -/
theorem script_proved : Rows.FnUseScriptAgreesWithHistorySaid := script.over
end Go.Proofs.Qxb6605427a
