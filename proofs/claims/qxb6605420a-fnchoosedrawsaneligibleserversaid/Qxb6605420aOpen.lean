/-
  SEAT b6605420a: A SLICE OF STRINGS THAT CAME IN, OPENED AS THE WALKS WANT IT ('IsStrs').
-/
import Derived.Test.Qxb6605420aParts
import Derived.ProofKit
import Derived.OpenShut
namespace Go.Proofs.Qxb6605420a
open Go.ChangeShapes Go.WideShapes Go.ChangeAt Go.RowKit

theorem open_strs_row {H : Type} {enc : TypeId × Value → H} {W : World} {a : Option Addr} {len cap : Nat} {d : DataW H} {p : List MemPlace}
    (h : DataW.Trod enc Try.prog W 0 (fun _ => true) true 22 (.slice a len cap) d p) :
    ∃ ss, IsStrs W a len ss ∧ (a = none → len = 0 ∧ cap = 0) := by
  obtain ⟨fuel, hf⟩ := h
  rcases open_strings Try.underlying22 Try.underlying9 Try.cells9 hf with ⟨hcs, _⟩ | ⟨x, l, c, ss, hcs, _, hl, hm, hz, _, hcell, hsz⟩
  · simp [Value.cells] at hcs
    obtain ⟨rfl, rfl, rfl⟩ := hcs
    exact ⟨[], ⟨rfl, by simp, Nat.zero_le _, fun h => by cases h⟩, fun _ => ⟨rfl, rfl⟩⟩
  · simp [Value.cells] at hcs
    obtain ⟨rfl, rfl, rfl⟩ := hcs
    simp only [if_true] at hz
    refine ⟨ss.take len, ⟨by simp; omega, fun s hs => hsz s (List.mem_of_mem_take hs), by omega, ?_⟩, fun h => by cases h⟩
    intro h0
    obtain ⟨b, off, spot⟩ := x
    have c0 := hcell 0 (by omega)
    have hspot : spot = none := by simpa [Addr.add] using World.cell?_spot c0
    subst hspot
    refine ⟨b, off, rfl, World.block_lt_of_cell? _ _ c0, ?_⟩
    intro j hj
    have := hcell j (by omega)
    rw [add_plain] at this
    rw [this]
    simp [hj]

end Go.Proofs.Qxb6605420a
