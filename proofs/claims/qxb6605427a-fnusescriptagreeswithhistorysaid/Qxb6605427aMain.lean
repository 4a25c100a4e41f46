/-
  SEAT b6605427a: FnUseScriptAgreesWithHistory (4): what its main loop holds in memory, and how each step hands it on.
-/
import Derived.Test.Qxb6605427aInts
import Derived.Test.Qxb6605427aHist
namespace Go.Proofs.Qxb6605427a
open Go.RowKit
open Plain (pos tst setB clrB clrTo zeros took isNew newH newB Ok Inv)
set_option linter.unusedVariables false

theorem Try.info21 : (Try.prog.info? 21).map (fun i => (i.zero, i.size, i.bytes)) = some (some (.int .i32 0), 1, 4) := by kernel_rfl

/-- 'bits = b2': a whole array over another. -/
theorem wpList_store_over {ops : Array Oper} {rest : List Oper} {o : Oper} {a : Act} {w : World} {Q : Exit → Act → World → Prop} (x y : Operand) (ho : o.op = .store 23 x y) (hg : o.guard = none)
    (g : Nat) (bs cs : List Nat) (hx : a.eval x = .pointer (some ⟨g, 0, none⟩)) (hy : a.eval y = .agg (words cs).toArray) (hb : Arr w g bs) (hl : bs.length = 16) (hc : cs.length = 16)
    (hK : ∀ w', Arr w' g cs → Kept g w w' → wpList Try.prog ops Q rest (a.put o.dst undef) w') : wpList Try.prog ops Q (o :: rest) a w := by
  refine wpList_plain hg fun K hK' => ?_
  have hrun := run_storeVar_row (P := Try.prog) w g 23 23 (words bs).toArray (words cs).toArray hb (by rw [Try.size23]; simp [words_length, hc]) (by simp [words_length, hc, hl]) (words_oneCell cs)
  unfold Oper.wp execOp
  simp only [ho, hx, hy, Instr.storeAt, Instr.sureAddr, Sem.run_bind, Sem.run_pure, Result.andThen_ok, hrun]
  exact hK' _ _ (hK _ (setRow_heap w g _ _ 23 (0, 0) hb) ⟨rfl, rfl, rfl, by simp [World.setRow], fun k hk => setRow_other w g k _ hk⟩)

def ints (zs : List Int) : List Value := zs.map (Value.int .i32)
theorem ints_get (zs : List Int) (k : Nat) (hk : k < zs.length) : (ints zs)[k]? = some (.int .i32 (zs.getD k 0)) := by
  unfold ints
  rw [List.getElem?_map, List.getElem?_eq_getElem hk]
  simp [List.getElem?_eq_getElem hk]

structure Main (w wr : World) (C G A len : Nat) (zs : List Int) (bs : List Nat) (acc : List Int) : Prop where
  ns : wr.ownsRow C 21 1 (.slice (some ⟨C, 0, none⟩) len len) len (ints zs)
  arr : Arr wr G bs
  acc : wr.ownsRow A 21 1 (.slice (some ⟨A, 0, none⟩) acc.length len) acc.length (ints acc)
  below : Below w.heap.size w wr

theorem grown_of_below {w w' : World} (h : Below w.heap.size w w') (row : Option Nat) : w.grownBy w' row := ⟨h.os, h.tape, h.output, h.size, fun i hi _ => h.block i hi⟩
theorem grown_of_kept {g : Nat} {w w' : World} (h : Kept g w w') : w.grownBy w' (some g) := ⟨h.os, h.tape, h.output, by rw [h.size]; exact Nat.le_refl _, fun i _ hne => h.block i (fun e => hne (by rw [e]))⟩

section
variable {w wr w' : World} {C G A len : Nat} {zs : List Int} {bs : List Nat} {acc : List Int}

theorem Main.more (M : Main w wr C G A len zs bs acc) (h : Below wr.heap.size wr w') : Main w w' C G A len zs bs acc :=
  ⟨M.ns.kept (grown_of_below h none) (.inr (by simp [Value.ownBlock])), M.arr.kept h, M.acc.kept (grown_of_below h none) (.inr (by simp [Value.ownBlock])), M.below.trans (h.mono M.below.size)⟩

theorem Main.over (M : Main w wr C G A len zs bs acc) (hCG : C < G) (hGA : G < A) (hwG : w.heap.size ≤ G) {T : List Nat} (hT : Arr w' G T) (h : Kept G wr w') : Main w w' C G A len zs T acc :=
  ⟨M.ns.kept (grown_of_kept h) (.inr (by simp [Value.ownBlock]; omega)), hT, M.acc.kept (grown_of_kept h) (.inr (by simp [Value.ownBlock]; omega)),
    M.below.trans ⟨h.os, h.tape, h.output, by rw [h.size]; exact Nat.le_refl _, fun k hk => h.block k (by omega)⟩⟩

theorem Main.append (M : Main w wr C G A len zs bs acc) (hCA : C < A) (hGA : G < A) (hwA : w.heap.size ≤ A) {x : Int} (h1 : w'.ownsRow A 21 1 (.slice (some ⟨A, 0, none⟩) (acc.length + 1) len) (acc.length + 1) (ints acc ++ [.int .i32 x])) (h : wr.grownBy w' (some A)) : Main w w' C G A len zs bs (acc ++ [x]) :=
  ⟨M.ns.kept h (.inr (by simp [Value.ownBlock]; omega)), (h.block G M.arr.lt (by simp; omega)).trans M.arr, by simpa [ints] using h1, M.below.grown h M.below.size (fun k hk => by cases hk; exact hwA)⟩

theorem Main.nsCell (M : Main w wr C G A len zs bs acc) (hl : zs.length = len) (k : Nat) (hk : k < len) : wr.cell? ⟨C, k, none⟩ = some (.int .i32 (zs.getD k 0)) := by
  rw [M.ns.cellAt k (by omega), ints_get zs k (by omega)]
theorem Main.accCell (M : Main w wr C G A len zs bs acc) (k : Nat) (hk : k < acc.length) : wr.cell? ⟨A, k, none⟩ = some (.int .i32 (acc.getD k 0)) := by
  rw [M.acc.cellAt k (by omega), ints_get acc k hk]
end

end Go.Proofs.Qxb6605427a
