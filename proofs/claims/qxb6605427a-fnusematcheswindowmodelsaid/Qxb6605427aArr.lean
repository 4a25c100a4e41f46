/-
  SEAT b6605427a: A VARIABLE OF TYPE [16]uint64: read and written whole; compared whole.
-/
import Derived.Test.Qxb6605427aZZUse
import Derived.Deep.WholeRow
namespace Go.Proofs.Qxb6605427a
open Go.RowKit
open Plain (pos tst setB clrB clrTo zeros took isNew newH newB Ok)
set_option linter.unusedVariables false

/-- BLOCK g IS A [16]uint64 THAT HOLDS bs. -/
def Arr (w : World) (g : Nat) (bs : List Nat) : Prop := w.heap[g]? = some (.cells (words bs).toArray 23 (0, 0))

theorem Arr.lt {w : World} {g : Nat} {bs : List Nat} (h : Arr w g bs) : g < w.heap.size := (Array.getElem?_eq_some_iff.1 h).1
theorem Arr.kept {w w' : World} {g : Nat} {bs : List Nat} (h : Arr w g bs) (hb : Below w.heap.size w w') : Arr w' g bs := (hb.block g h.lt).trans h
theorem arr_new (w : World) (bs : List Nat) : Arr (w.alloc (.cells (words bs).toArray 23)) w.heap.size bs := heap_alloc_last w _

theorem wpList_load_arr {ops : Array Oper} {rest : List Oper} {o : Oper} {a : Act} {w : World} {Q : Exit → Act → World → Prop} (x : Operand) (ho : o.op = .load 23 x) (hg : o.guard = none)
    (g : Nat) (bs : List Nat) (hx : a.eval x = .pointer (some ⟨g, 0, none⟩)) (hb : Arr w g bs) (hl : bs.length = 16)
    (hK : wpList Try.prog ops Q rest (a.put o.dst (.agg (words bs).toArray)) w) : wpList Try.prog ops Q (o :: rest) a w :=
  wpList_load_words hg x ho g bs hx hb hl hK

/-- .. under a guard that says yes. -/
theorem wpList_load_arr_if {ops : Array Oper} {rest : List Oper} {o : Oper} {a : Act} {w : World} {Q : Exit → Act → World → Prop} (x : Operand) (ho : o.op = .load 23 x) (hw : Region.wanted o (yielded ops a.tmps) = true)
    (g : Nat) (bs : List Nat) (hx : a.eval x = .pointer (some ⟨g, 0, none⟩)) (hb : Arr w g bs) (hl : bs.length = 16)
    (hK : wpList Try.prog ops Q rest (a.put o.dst (.agg (words bs).toArray)) w) : wpList Try.prog ops Q (o :: rest) a w :=
  wpList_step fun K hK' => by
    rw [if_pos hw]
    exact wp_load_row 23 x ho g hx 23 (words bs).toArray (0, 0) _ hb Try.underlying23 rfl (by rw [Try.size23]; simp [words_length, hl]) (hK' _ _ hK)

/-- 'var x [16]uint64; x = ..': a whole array into the block that was made last. -/
theorem wpList_store_arr {ops : Array Oper} {rest : List Oper} {o : Oper} {a : Act} {w0 : World} {Q : Exit → Act → World → Prop} (x y : Operand) (ho : o.op = .store 23 x y) (hg : o.guard = none)
    (w : World) (Z : Array Value) (hw : w0 = w.alloc (.cells Z 23)) (cs : List Nat) (hx : a.eval x = .pointer (some ⟨w.heap.size, 0, none⟩)) (hy : a.eval y = .agg (words cs).toArray) (hZ : Z.size = 16) (hc : cs.length = 16)
    (hK : ∀ w', Arr w' w.heap.size cs → Below w.heap.size w w' → wpList Try.prog ops Q rest (a.put o.dst undef) w') : wpList Try.prog ops Q (o :: rest) a w0 := by
  subst hw
  refine wpList_plain hg fun K hK' => ?_
  have hrun := run_storeVar_new (P := Try.prog) w 23 Z (words cs).toArray (by rw [Try.size23]; simp [words_length, hc]) (by simp [words_length, hc, hZ]) (words_oneCell cs)
  unfold Oper.wp execOp
  simp only [ho, hx, hy, Instr.storeAt, Instr.sureAddr, Sem.run_bind, Sem.run_pure, Result.andThen_ok, hrun]
  exact hK' _ _ (hK _ (arr_new w cs) ((Below.refl _ _).alloc (Nat.le_refl _) _))

theorem words_part (w : World) (cs : List Nat) (i : Nat) (hi : i < cs.length) : (part 22 (words cs).toArray (i * 1)).run Try.prog w = .ok (.int .u64 (cs.getD i 0 : Nat)) w := by
  have e : (words cs)[i]? = some (.int .u64 (cs.getD i 0 : Nat)) := words_get cs i hi
  simp [part, isAgg, run_underlying Try.underlying22, e]

/-- AN ARRAY EQUALS ITSELF. -/
theorem run_equalIn_words (w : World) (d : Nat) (cs : List Nat) (hc : cs.length = 16) : (Op.equalIn (d + 2) 23 (.agg (words cs).toArray) (.agg (words cs).toArray)).run Try.prog w = .ok true w := by
  have hsz : ∀ w, (sizeOf 22).run Try.prog w = .ok 1 w := fun w => by kernel_rfl
  rw [Op.equalIn]
  simp only [Sem.run_bind, run_underlying Try.underlying23, Result.andThen_ok, hsz, Std.Legacy.Range.forIn_eq_forIn_range', Std.Legacy.Range.size, Nat.sub_zero, Nat.add_sub_cancel, Nat.div_one]
  have hl : ∀ i ∈ List.range' 0 16 1, i < 16 := fun i hi => by simpa using (List.mem_range'_1.1 hi).2
  generalize List.range' 0 16 1 = l at hl ⊢
  induction l with
  | nil => simp
  | cons i l ih =>
    have hi : i < cs.length := by rw [hc]; exact hl i (by simp)
    have pe : (Op.equalIn (d + 1) 22 (.int .u64 (cs.getD i 0 : Nat)) (.int .u64 (cs.getD i 0 : Nat))).run Try.prog w = .ok true w := by
      rw [run_equalIn_int w d 22 .u64 .u64 _ _ Try.underlying22]; simp
    simp only [List.forIn_cons, Sem.run_bind, words_part w cs i hi, pe, Result.andThen_ok, Bool.not_true, Bool.false_eq_true, if_false, Sem.run_pure]
    exact ih fun j hj => hl j (by simp [hj])

theorem run_same (w : World) (cs : List Nat) (hc : cs.length = 16) : (Op.equalIn 10000 23 (.agg (words cs).toArray) (.agg (words cs).toArray)).run Try.prog w = .ok true w := run_equalIn_words w 9998 cs hc
theorem guard23 : Try.prog.eqGuardType Try.prog.depth 23 = false := by kernel_rfl

/-- 'x != y', 'x == y' ON TWO ARRAYS THAT ARE ONE, under a guard that says yes. -/
theorem wpList_neq_arr_if {ops : Array Oper} {rest : List Oper} {o : Oper} {a : Act} {w : World} {Q : Exit → Act → World → Prop} (x y : Operand) (ho : o.op = .binOp .neq 23 x y 23) (hw : Region.wanted o (yielded ops a.tmps) = true)
    (cs : List Nat) (hx : a.eval x = .agg (words cs).toArray) (hy : a.eval y = .agg (words cs).toArray) (hc : cs.length = 16)
    (hK : wpList Try.prog ops Q rest (a.put o.dst (.bool false)) w) : wpList Try.prog ops Q (o :: rest) a w :=
  wpList_step fun K hK' => by
    rw [if_pos hw]
    have e1 := run_eqGuard_agg (P := Try.prog) w .neq 23 x y (words cs).toArray (words cs).toArray guard23
    have e2 : (binOp .neq 23 (.agg (words cs).toArray) (.agg (words cs).toArray)).run Try.prog w = .ok (.bool false) w := by rw [run_neq_struct, run_same w cs hc]; rfl
    unfold Oper.wp execOp
    simp only [ho, hx, hy, Sem.run_bind, e1, e2, Result.andThen_ok]
    exact hK' _ _ hK
theorem wpList_eql_arr_if {ops : Array Oper} {rest : List Oper} {o : Oper} {a : Act} {w : World} {Q : Exit → Act → World → Prop} (x y : Operand) (ho : o.op = .binOp .eql 23 x y 23) (hw : Region.wanted o (yielded ops a.tmps) = true)
    (cs : List Nat) (hx : a.eval x = .agg (words cs).toArray) (hy : a.eval y = .agg (words cs).toArray) (hc : cs.length = 16)
    (hK : wpList Try.prog ops Q rest (a.put o.dst (.bool true)) w) : wpList Try.prog ops Q (o :: rest) a w :=
  wpList_step fun K hK' => by
    rw [if_pos hw]
    have e1 := run_eqGuard_agg (P := Try.prog) w .eql 23 x y (words cs).toArray (words cs).toArray guard23
    have e2 : (binOp .eql 23 (.agg (words cs).toArray) (.agg (words cs).toArray)).run Try.prog w = .ok (.bool true) w := by rw [run_eql_struct, run_same w cs hc]; rfl
    unfold Oper.wp execOp
    simp only [ho, hx, hy, Sem.run_bind, e1, e2, Result.andThen_ok]
    exact hK' _ _ hK

end Go.Proofs.Qxb6605427a
