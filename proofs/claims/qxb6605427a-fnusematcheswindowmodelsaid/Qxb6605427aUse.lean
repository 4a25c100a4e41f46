/-
  SEAT b6605427a: THE WALK OF (*usedNumbers).use (12).
-/
import Derived.Test.Qxb6605427aPlace
namespace Go.Proofs.Qxb6605427a
open Go.RowKit
open Plain (pos tst setB clrB clrTo zeros took isNew newH newB Ok)
set_option linter.unusedVariables false

def words (bs : List Nat) : List Value := bs.map fun (z : Nat) => Value.int .u64 (z : Int)
/-- The struct's cells: the highest number, then the sixteen words. -/
def stCells (h : Int) (bs : List Nat) : List Value := Value.int .i32 h :: words bs

theorem words_get (bs : List Nat) (k : Nat) (hk : k < bs.length) : (words bs)[k]? = some (.int .u64 (bs.getD k 0 : Nat)) := by
  unfold words
  rw [List.getElem?_map, List.getElem?_eq_getElem hk]
  simp [List.getElem?_eq_getElem hk]

/-- BLOCK B IS A usedNumbers THAT HOLDS (h, bs). -/
def Holds (w : World) (B : Nat) (h : Int) (bs : List Nat) : Prop := w.heap[B]? = some (.cells (stCells h bs).toArray 36 (0, 0))

theorem Holds.high {w : World} {B : Nat} {h : Int} {bs : List Nat} (hw : Holds w B h bs) : w.cell? ⟨B, 0, none⟩ = some (.int .i32 h) := by
  rw [cell_of_row w B 0 _ _ _ hw]; rfl
theorem Holds.word {w : World} {B : Nat} {h : Int} {bs : List Nat} (hw : Holds w B h bs) (hl : bs.length = 16) (k : Nat) (hk : k < 16) : w.cell? ⟨B, 1 + k, none⟩ = some (.int .u64 (bs.getD k 0 : Nat)) := by
  rw [cell_of_row w B (1 + k) _ _ _ hw]
  rw [List.getElem?_toArray, Nat.add_comm, stCells, List.getElem?_cons_succ, words_get bs k (by omega)]
theorem Holds.thaw {w : World} {B : Nat} {h : Int} {bs : List Nat} (hw : Holds w B h bs) (j : Nat) : w.frozen? ⟨B, j, none⟩ = false := by
  simp only [Holds] at hw
  simp [World.frozen?, hw]
theorem Holds.lt {w : World} {B : Nat} {h : Int} {bs : List Nat} (hw : Holds w B h bs) : B < w.heap.size := World.block_lt_of_cell? _ _ hw.high

theorem block_setCell {w : World} {B j : Nat} {cs : List Value} (h : w.heap[B]? = some (.cells cs.toArray 36 (0, 0))) (v : Value) : (w.setCell ⟨B, j, none⟩ v).heap[B]? = some (.cells (cs.set j v).toArray 36 (0, 0)) := by
  simp only [World.setCell, Array.getElem?_modify, h]
  simp

theorem Holds.setHigh {w : World} {B : Nat} {h : Int} {bs : List Nat} (hw : Holds w B h bs) (n : Int) : Holds (w.setCell ⟨B, 0, none⟩ (.int .i32 n)) B n bs := block_setCell hw _
theorem Holds.setWord {w : World} {B : Nat} {h : Int} {bs : List Nat} (hw : Holds w B h bs) (k z : Nat) : Holds (w.setCell ⟨B, 1 + k, none⟩ (.int .u64 (z : Nat))) B h (bs.set k z) := by
  have := block_setCell (j := 1 + k) hw (.int .u64 (z : Nat))
  rw [Nat.add_comm 1 k] at this ⊢
  simpa [Holds, stCells, words, List.map_set] using this
theorem Holds.drewN {w : World} {B : Nat} {h : Int} {bs : List Nat} (hw : Holds w B h bs) (k : Nat) : Holds (w.drewN k) B h bs := hw

set_option maxHeartbeats 400000 in
theorem use_low (B : Nat) (h n : Int) (bs : List Nat) (w : World) (hw : Holds w B h bs) (h0 : 0 ≤ h) (h1 : h ≤ 2147483647) (n0 : -2147483648 ≤ n) (n1 : n ≤ 2147483647) (hn : n ≤ 0 ∨ n ≤ h - 1024) :
    Calls Try.prog 12 #[.pointer (some ⟨B, 0, none⟩), .int .i32 n] w fun e w' => e = .returned (.bool false) ∧ w = w' := by
  have c0 := hw.high
  by_cases hc : n ≤ 0
  · go_enter Try.func12, Try.ntmps12
    go_wp2
    go_ret
    exact ⟨rfl, rfl⟩
  · have hn2 : n ≤ h - 1024 := by omega
    go_enter Try.func12, Try.ntmps12
    go_wp2
    go_ret
    exact ⟨rfl, rfl⟩

theorem and_test (x j : Nat) (hx : x < 18446744073709551616) (hj : j < 64) : (bits .and .u64 (x : Int) ((2 ^ j : Nat) : Int) != 0) = x.testBit j := by
  have hp : 2 ^ j < 18446744073709551616 := by have := Plain.pow_lt j; rwa [Nat.mod_eq_of_lt hj] at this
  rw [u64_and_nat x (2 ^ j) hx hp, nat_bit, Nat.testBit_eq_decide_div_mod_eq]
  have h2 := Nat.two_pow_pos j
  rcases Nat.mod_two_eq_zero_or_one (x / 2 ^ j) with e | e
  · rw [e]; simp
  · rw [e]
    have : (((1 * 2 ^ j : Nat) : Int) != 0) = true := by rw [bne_iff_ne]; omega
    rw [this]; rfl

/-- What place gives, as a contract whose numbers are letters. -/
def Place (n : Int) (p z : Nat) : Prop := ∀ w : World, Calls Try.prog 13 #[.int .i32 n] w fun e w' => e = .returned (.tuple #[.int .i64 (p : Nat), .int .u64 (z : Nat)]) ∧ ∃ k, w' = w.drewN k
theorem place_letters (n : Int) (h0 : 0 < n) (h1 : n ≤ 2147483647) : Place n (pos n / 64) (2 ^ (pos n % 64)) := fun w => place_any n w h0 h1

set_option maxHeartbeats 400000 in
theorem seen_walk (B : Nat) (h n : Int) (p z x : Nat) (w : World) (hpl : Place n p z) (c0 : w.cell? ⟨B, 0, none⟩ = some (.int .i32 h)) (c1 : w.cell? ⟨B, 1 + p, none⟩ = some (.int .u64 (x : Nat))) (hp : p < 16)
    (h0 : 0 ≤ h) (h1 : h ≤ 2147483647) (hn0 : 0 < n) (hn1 : h - 1024 < n) (hn2 : n ≤ h) (hb : (bits .and .u64 (x : Int) (z : Int) != 0) = true) :
    Calls Try.prog 12 #[.pointer (some ⟨B, 0, none⟩), .int .i32 n] w fun e w' => e = .returned (.bool false) ∧ ∃ k, w' = w.drewN k := by
  go_enter Try.func12, Try.ntmps12
  go_wp2_with (go_at_call 13; refine (hpl _).mono ?_; rintro e w' ⟨rfl, nk, rfl⟩)
  go_ret
  exact ⟨rfl, _, rfl⟩

set_option maxHeartbeats 400000 in
theorem fresh_walk (B : Nat) (h n : Int) (p z x : Nat) (w : World) (hpl : Place n p z) (c0 : w.cell? ⟨B, 0, none⟩ = some (.int .i32 h)) (c1 : w.cell? ⟨B, 1 + p, none⟩ = some (.int .u64 (x : Nat))) (f1 : w.frozen? ⟨B, 1 + p, none⟩ = false) (hp : p < 16)
    (h0 : 0 ≤ h) (h1 : h ≤ 2147483647) (hn0 : 0 < n) (hn1 : h - 1024 < n) (hn2 : n ≤ h) (hb : (bits .and .u64 (x : Int) (z : Int) != 0) = false) :
    Calls Try.prog 12 #[.pointer (some ⟨B, 0, none⟩), .int .i32 n] w fun e w' => e = .returned (.bool true) ∧ ∃ k, w' = (w.drewN k).setCell ⟨B, 1 + p, none⟩ (.int .u64 (bits .or .u64 (x : Int) (z : Int))) := by
  go_enter Try.func12, Try.ntmps12
  go_wp2_with (go_at_call 13; refine (hpl _).mono ?_; rintro e w' ⟨rfl, nk, rfl⟩)
  go_region
  go_wp2
  go_ret
  exact ⟨rfl, nk + 1, rfl⟩

/-! ### above the highest: the places that leave the window are freed -/
theorem zero23 (w : World) : (zeroValue 23).run Try.prog w = .ok (.agg (words zeros).toArray) w := by kernel_rfl
theorem Try.size23 : (Try.prog.info? 23).map (·.size) = some 16 := by kernel_rfl
theorem built23 : Try.prog.built 23 [] = some (words zeros).toArray := by kernel_rfl

/-- NOTHING BUT BLOCK B HAS TURNED, AND NO BLOCK HAS COME. -/
structure Kept (B : Nat) (w w' : World) : Prop where
  os : w'.os = w.os
  tape : w'.tape = w.tape
  output : w'.output = w.output
  size : w'.heap.size = w.heap.size
  block : ∀ k, k ≠ B → w'.heap[k]? = w.heap[k]?

theorem Kept.refl (B : Nat) (w : World) : Kept B w w := ⟨rfl, rfl, rfl, rfl, fun _ _ => rfl⟩
theorem Kept.trans {B : Nat} {a b c : World} (h : Kept B a b) (k : Kept B b c) : Kept B a c :=
  ⟨k.os.trans h.os, k.tape.trans h.tape, k.output.trans h.output, k.size.trans h.size, fun i hi => (k.block i hi).trans (h.block i hi)⟩
theorem kept_drewN (B : Nat) (w : World) (k : Nat) : Kept B w (w.drewN k) := ⟨rfl, rfl, rfl, rfl, fun _ _ => rfl⟩
theorem kept_drew (B : Nat) (w : World) : Kept B w w.drew := ⟨rfl, rfl, rfl, rfl, fun _ _ => rfl⟩
theorem kept_setCell (B : Nat) (w : World) (j : Nat) (v : Value) : Kept B w (w.setCell ⟨B, j, none⟩ v) :=
  ⟨rfl, rfl, rfl, by simp [World.setCell], fun k hk => Below.heap_setCell _ _ _ _ hk⟩

def setL (L : List Value) (o : Nat) : List Value → List Value
  | [] => L
  | v :: r => setL (L.set o v) (o + 1) r

theorem block_setCells {B : Nat} : ∀ (vs : List Value) (o : Nat) (w : World) (L : List Value), w.heap[B]? = some (.cells L.toArray 36 (0, 0)) → (w.setCells B o vs).heap[B]? = some (.cells (setL L o vs).toArray 36 (0, 0)) ∧ Kept B w (w.setCells B o vs)
  | [], _, w, _, h => ⟨h, Kept.refl B w⟩
  | v :: r, o, w, L, h => by
    rw [World.setCells]
    obtain ⟨h1, h2⟩ := block_setCells r (o + 1) _ _ (block_setCell (j := o) h v)
    exact ⟨h1, (kept_setCell B w o v).trans h2⟩

theorem setL_whole : ∀ (vs p q : List Value), q.length = vs.length → setL (p ++ q) p.length vs = p ++ vs
  | [], p, q, h => by
    obtain rfl := List.eq_nil_of_length_eq_zero (by simpa using h)
    simp [setL]
  | v :: r, p, q, h => by
    match q, h with
    | u :: t, h =>
      have e : (p ++ u :: t).set p.length v = (p ++ [v]) ++ t := by simp
      rw [setL, e]
      have := setL_whole r (p ++ [v]) t (by simpa using h)
      simp only [List.length_append, List.length_singleton] at this
      rw [this]
      simp

theorem words_length (bs : List Nat) : (words bs).length = bs.length := by simp [words]
theorem words_oneCell (bs : List Nat) : (words bs).toArray.all (·.oneCell') = true := all_oneCell_toArray (fun v hv => by
  obtain ⟨s, _, rfl⟩ := List.mem_map.1 hv
  rfl)

/-- 'u.bits = [..]': all sixteen words at once. -/
theorem wpList_store_bits {ops : Array Oper} {rest : List Oper} {o : Oper} {a : Act} {w : World} {Q : Exit → Act → World → Prop} (hg : o.guard = none) (x y : Operand) (ho : o.op = .store 23 x y)
    (B : Nat) (h : Int) (bs cs : List Nat) (hx : a.eval x = .pointer (some ⟨B, 1, none⟩)) (hy : a.eval y = .agg (words cs).toArray) (hw : Holds w B h bs) (hl : bs.length = 16) (hc : cs.length = 16)
    (hK : ∀ w', Holds w' B h cs → Kept B w w' → wpList Try.prog ops Q rest (a.put o.dst undef) w') : wpList Try.prog ops Q (o :: rest) a w := by
  obtain ⟨h1, h2⟩ := block_setCells (words cs) 1 w _ hw
  have e := setL_whole (words cs) [Value.int .i32 h] (words bs) (by simp [words_length, hl, hc])
  have h3 : Holds (w.setCells B 1 (words cs)) B h cs := by
    unfold Holds
    rw [h1]
    have : setL (stCells h bs) 1 (words cs) = stCells h cs := e
    rw [this]
  refine wpList_store_mid hg 23 x y ho B 1 (words cs).toArray hx hy ?_ ?_ (words_oneCell cs) ?_
  · intro j hj
    refine ⟨?_, hw.thaw _⟩
    rw [hw.word hl j (by simpa [words_length, hc] using hj)]
    rfl
  · rw [Try.size23]; simp [words_length, hc]
  · exact hK _ h3 h2

theorem zeros_get (p : Nat) : zeros.getD p 0 = 0 := by
  unfold Plain.zeros
  rw [List.getD, List.getElem?_replicate]
  split <;> rfl
theorem Holds.zeroWord {w : World} {B : Nat} {h : Int} (hw : Holds w B h zeros) (k : Nat) (hk : k < 16) : w.cell? ⟨B, 1 + k, none⟩ = some (.int .u64 0) := by
  have := hw.word rfl k hk
  rw [zeros_get] at this
  exact this

set_option maxHeartbeats 400000 in
theorem far_walk (B : Nat) (h n : Int) (p z : Nat) (bs : List Nat) (w : World) (hpl : Place n p z) (hw : Holds w B h bs) (hl : bs.length = 16) (hp : p < 16)
    (h0 : 0 ≤ h) (h1 : h ≤ 2147483647) (hn1 : n ≤ 2147483647) (hn2 : h < n) (hn3 : 1024 ≤ n - h) (hor : bits .or .u64 (0 : Int) (z : Int) = (z : Nat)) :
    Calls Try.prog 12 #[.pointer (some ⟨B, 0, none⟩), .int .i32 n] w fun e w' => e = .returned (.bool true) ∧ Holds w' B n (zeros.set p z) ∧ Kept B w w' := by
  have c0 := hw.high
  go_enter Try.func12, Try.ntmps12
  go_wp2_with (first
    | (go_at_call 13; refine (hpl _).mono ?_; rintro e w' ⟨rfl, nk, rfl⟩)
    | (refine wpList_store_bits rfl _ _ rfl B h bs zeros rfl rfl (hw.drewN nk) hl rfl ?_; intro w2 hw2 hk2; have c02 := hw2.high; have f02 := hw2.thaw 0; have c12 := hw2.zeroWord p hp; have f12 := hw2.thaw (1 + p))
    | fail)
  go_region
  go_wp2
  go_ret
  exact ⟨rfl, (hw2.setHigh n).setWord p z, ((kept_drewN B w nk).trans hk2).trans (((kept_setCell B _ 0 _).trans (kept_setCell B _ (1 + p) _)).trans (kept_drew B _))⟩

end Go.Proofs.Qxb6605427a
