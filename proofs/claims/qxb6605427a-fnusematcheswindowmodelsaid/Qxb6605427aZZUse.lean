/-
  SEAT b6605427a: THE WALK OF ZZUse (7).
-/
import Derived.Test.Qxb6605427aNear
import Derived.Deep.RegionHeld3
namespace Go.Proofs.Qxb6605427a
open Go.RowKit
open Plain (pos tst setB clrB clrTo zeros took isNew newH newB Ok)
set_option linter.unusedVariables false

theorem Try.size36 : (Try.prog.info? 36).map (·.size) = some 17 := by kernel_rfl

/-- A whole [16]uint64 out of a block that holds just it. -/
theorem wpList_load_words {ops : Array Oper} {rest : List Oper} {o : Oper} {a : Act} {w : World} {Q : Exit → Act → World → Prop} (hg : o.guard = none) (x : Operand) (ho : o.op = .load 23 x)
    (g : Nat) (bs : List Nat) (hx : a.eval x = .pointer (some ⟨g, 0, none⟩)) (hb : w.heap[g]? = some (.cells (words bs).toArray 23 (0, 0))) (hl : bs.length = 16)
    (hK : wpList Try.prog ops Q rest (a.put o.dst (.agg (words bs).toArray)) w) : wpList Try.prog ops Q (o :: rest) a w :=
  wpList_load_row hg 23 x ho g hx 23 (words bs).toArray (0, 0) _ hb Try.underlying23 rfl (by rw [Try.size23]; simp [words_length, hl]) hK

theorem built36_lit (h : Int) (b0 b1 b2 b3 b4 b5 b6 b7 b8 b9 b10 b11 b12 b13 b14 b15 : Nat) :
    Try.prog.built 36 [(0, .int .i32 h), (1, .agg #[.int .u64 (b0 : Nat), .int .u64 (b1 : Nat), .int .u64 (b2 : Nat), .int .u64 (b3 : Nat), .int .u64 (b4 : Nat), .int .u64 (b5 : Nat), .int .u64 (b6 : Nat), .int .u64 (b7 : Nat), .int .u64 (b8 : Nat), .int .u64 (b9 : Nat), .int .u64 (b10 : Nat), .int .u64 (b11 : Nat), .int .u64 (b12 : Nat), .int .u64 (b13 : Nat), .int .u64 (b14 : Nat), .int .u64 (b15 : Nat)])] = some #[.int .i32 h, .int .u64 (b0 : Nat), .int .u64 (b1 : Nat), .int .u64 (b2 : Nat), .int .u64 (b3 : Nat), .int .u64 (b4 : Nat), .int .u64 (b5 : Nat), .int .u64 (b6 : Nat), .int .u64 (b7 : Nat), .int .u64 (b8 : Nat), .int .u64 (b9 : Nat), .int .u64 (b10 : Nat), .int .u64 (b11 : Nat), .int .u64 (b12 : Nat), .int .u64 (b13 : Nat), .int .u64 (b14 : Nat), .int .u64 (b15 : Nat)] := by kernel_rfl
theorem built36 (h : Int) (bs : List Nat) (hl : bs.length = 16) : Try.prog.built 36 [(0, .int .i32 h), (1, .agg (words bs).toArray)] = some (stCells h bs).toArray := by
  match bs, hl with
  | [b0, b1, b2, b3, b4, b5, b6, b7, b8, b9, b10, b11, b12, b13, b14, b15], _ => exact built36_lit h b0 b1 b2 b3 b4 b5 b6 b7 b8 b9 b10 b11 b12 b13 b14 b15

/-- 'usedNumbers{highest: .., bits: ..}'. -/
theorem wpList_build_st {ops : Array Oper} {rest : List Oper} {o : Oper} {a : Act} {w : World} {Q : Exit → Act → World → Prop} (hg : o.guard = none) (x y : Operand) (ho : o.op = .build 36 #[(0, x), (1, y)])
    (h : Int) (bs : List Nat) (hx : a.eval x = .int .i32 h) (hy : a.eval y = .agg (words bs).toArray) (hl : bs.length = 16)
    (hK : wpList Try.prog ops Q rest (a.put o.dst (.agg (stCells h bs).toArray)) w) : wpList Try.prog ops Q (o :: rest) a w := by
  have e : ((#[(0, x), (1, y)] : Array (Nat × Operand)).map fun (i, z) => (i, a.eval z)).toList = [(0, .int .i32 h), (1, .agg (words bs).toArray)] := by simp [hx, hy]
  have e2 := built36 h bs hl
  refine wpList_plain hg fun K hK' => wp_build 36 _ ho ?_ ?_
  · rw [e, e2]; rfl
  · rw [e, e2]; exact hK' _ _ hK

theorem stCells_length (h : Int) (bs : List Nat) : (stCells h bs).length = bs.length + 1 := by simp [stCells, words_length]
theorem stCells_oneCell (h : Int) (bs : List Nat) : (stCells h bs).toArray.all (·.oneCell') = true := all_oneCell_toArray (fun v hv => by
  rcases List.mem_cons.1 hv with rfl | hv
  · rfl
  · obtain ⟨s, _, rfl⟩ := List.mem_map.1 hv
    rfl)

/-- The struct laid into its own new block. -/
theorem wpList_store_st {ops : Array Oper} {rest : List Oper} {o : Oper} {a : Act} {w : World} {Q : Exit → Act → World → Prop} (hg : o.guard = none) (x y : Operand) (ho : o.op = .store 36 x y)
    (B : Nat) (h : Int) (bs : List Nat) (L : List Value) (hx : a.eval x = .pointer (some ⟨B, 0, none⟩)) (hy : a.eval y = .agg (stCells h bs).toArray) (hb : w.heap[B]? = some (.cells L.toArray 36 (0, 0))) (hL : L.length = 17) (hl : bs.length = 16)
    (hK : ∀ w', Holds w' B h bs → Kept B w w' → wpList Try.prog ops Q rest (a.put o.dst undef) w') : wpList Try.prog ops Q (o :: rest) a w := by
  obtain ⟨h1, h2⟩ := block_setCells (stCells h bs) 0 w _ hb
  have e := setL_whole (stCells h bs) [] L (by simp [stCells_length, hl, hL])
  have h3 : Holds (w.setCells B 0 (stCells h bs)) B h bs := by
    unfold Holds
    rw [h1]
    have : setL L 0 (stCells h bs) = stCells h bs := e
    rw [this]
  refine wpList_store_mid hg 36 x y ho B 0 (stCells h bs).toArray hx hy ?_ ?_ (stCells_oneCell h bs) ?_
  · intro j hj
    have hj17 : j < L.length := by rw [hL]; simpa [stCells_length, hl] using hj
    refine ⟨?_, by simp [World.frozen?, hb]⟩
    rw [cell_of_row w B (0 + j) _ _ _ hb, Nat.zero_add]
    simp [hj17]
  · rw [Try.size36]; simp [stCells_length, hl]
  · exact hK _ h3 h2

theorem Holds.range {w : World} {B : Nat} {h : Int} {bs : List Nat} (hw : Holds w B h bs) : w.rangeAt B 1 (words bs) := fun j v hv => by
  rw [cell_of_row w B (1 + j) _ _ _ hw, List.getElem?_toArray, Nat.add_comm, stCells, List.getElem?_cons_succ]
  exact hv
theorem there_zeros {w : World} {B : Nat} {C : Array Value} (hb : w.heap[B]? = some (.cells C 23 (0, 0))) (hC : C.size = 16 := by rfl) : w.there B 0 16 := fun j hj => by
  refine ⟨?_, by simp [World.frozen?, hb]⟩
  rw [cell_of_row w B (0 + j) C 23 (0, 0) hb, Nat.zero_add]
  simp [hC, hj]
/-- What the last statement's reads lean on stands behind its one store. -/
theorem keepS {w' : World} {g : Nat} {hh : Int} {cs : List Value} (hS : w'.cell? ⟨g + 1, 0, none⟩ = some (.int .i32 hh) ∧ w'.rangeAt (g + 1) 1 cs ∧ w'.there g 0 16) (hl : cs.length = 16) :
    (w'.setCells g 0 cs).cell? ⟨g + 1, 0, none⟩ = some (.int .i32 hh) ∧ (w'.setCells g 0 cs).rangeAt (g + 1) 1 cs ∧ (w'.setCells g 0 cs).there g 0 16 :=
  ⟨by rw [World.cell?_setCells_out g cs 0 w' ⟨g + 1, 0, none⟩ (fun h => by simp at h)]; exact hS.1, World.rangeAt_setCells_apart hS.2.1 _ _ _ (.inl (by omega)), World.there_setCells hS.2.2 _ _ _⟩

theorem kept_setCells (B : Nat) : ∀ (vs : List Value) (o : Nat) (w : World), Kept B w (w.setCells B o vs)
  | [], _, w => Kept.refl B w
  | v :: r, o, w => by rw [World.setCells]; exact (kept_setCell B w o v).trans (kept_setCells B r (o + 1) _)

theorem results7 {ok : Bool} {hh : Int} (tmps : Array Value) (w : World) (g : Nat) (cs : List Value) (h6 : tmps.getD 6 undef = .bool ok) (h7 : tmps.getD 7 undef = .int .i32 hh) (h8 : tmps.getD 8 undef = .pointer (some ⟨g, 0, none⟩))
    (hr : w.rangeAt g 0 cs) (hi : (Try.prog.info? 23).map (·.size) = some cs.length) : (results Try.f7 tmps).run Try.prog w = .ok (.tuple #[.bool ok, .int .i32 hh, .agg cs.toArray]) w := by
  have hl := run_loadVar_mid (P := Try.prog) w g 0 23 cs _ hr Try.underlying23 rfl hi
  have h6' : tmps[6]?.getD undef = .bool ok := by simpa using h6
  have h7' : tmps[7]?.getD undef = .int .i32 hh := by simpa using h7
  have h8' : tmps[8]?.getD undef = .pointer (some ⟨g, 0, none⟩) := by simpa using h8
  simp [results, Try.results7, h6', h7', h8', asAddr, hl]

/-- The new struct's seventeen cells, and the new array's sixteen, as they are laid. -/
def zero17 : List Value := stCells 0 zeros

theorem heap3_new (w : World) (A Z O : Obj) : (((w.alloc A).alloc Z).alloc O).heap[w.heap.size + 1 + 1]? = some O := by
  have h := heap_alloc_new ((w.alloc A).alloc Z) O
  have e : ((w.alloc A).alloc Z).heap.size = w.heap.size + 1 + 1 := by simp
  rwa [e] at h
/-- Behind the laying of the struct: the result's array is there; nothing old has turned; three blocks have come. -/
theorem heap3_facts {w w3 : World} {A Z O : Obj} (hk : Kept (w.heap.size + 1 + 1) (((w.alloc A).alloc Z).alloc O) w3) : w3.heap[w.heap.size + 1]? = some Z ∧ Below w.heap.size w w3 ∧ w3.heap.size = w.heap.size + 3 := by
  refine ⟨?_, ?_, ?_⟩
  · rw [hk.block _ (by omega), heap_alloc_old ((w.alloc A).alloc Z) O (show w.heap.size + 1 < _ by simp)]
    exact heap_alloc2_new w A Z
  · have h1 : Below w.heap.size w (((w.alloc A).alloc Z).alloc O) := (((Below.refl _ _).alloc (Nat.le_refl _) _).alloc (by simp) _).alloc (by simp; omega) _
    exact h1.trans ⟨hk.os, hk.tape, hk.output, by rw [hk.size]; exact Nat.le_refl _, fun k hk' => hk.block k (by omega)⟩
  · rw [hk.size]; simp

set_option maxHeartbeats 400000 in
theorem zzuse_any (h n : Int) (bs : List Nat) (w : World) (hok : Ok bs) (h0 : 0 ≤ h) (h1 : h ≤ 2147483647) (n0 : -2147483648 ≤ n) (n1 : n ≤ 2147483647) :
    Calls Try.prog 7 #[.int .i32 h, .agg (words bs).toArray, .int .i32 n] w fun e w' =>
      e = .returned (.tuple #[.bool (isNew h bs n), .int .i32 (newH h bs n), .agg (words (newB h bs n)).toArray]) ∧ Below w.heap.size w w' := by
  have hl := hok.len
  go_enter Try.func7, Try.ntmps7
  go_wp2_with (first
    | (refine wpList_load_words rfl _ rfl w.heap.size bs rfl ?_ hl ?_; (first | exact heap_alloc2_old _ _ _ | fail))
    | (refine wpList_build_st rfl _ _ rfl h bs rfl rfl hl ?_)
    | (refine wpList_store_st rfl _ _ rfl (w.heap.size + 1 + 1) h bs zero17 rfl rfl (heap3_new _ _ _ _) rfl hl ?_; intro w3 hw3 hk3; obtain ⟨r3, b3, s3⟩ := heap3_facts hk3; clear hk3)
    | (go_at_call 12; refine (use_any (w.heap.size + 1 + 1) h n bs _ hw3 hok h0 h1 n0 n1).mono ?_; rintro e w4 ⟨rfl, hw4, hk4⟩)
    | fail)
  have hbn := (Plain.ok_new hok h n).len
  have c4 := hw4.high
  have q4 := hw4.range
  have t4 := there_zeros ((hk4.block _ (by omega)).trans r3)
  have b4 : Below w.heap.size w w4 := b3.trans ⟨hk4.os, hk4.tape, hk4.output, by rw [hk4.size]; exact Nat.le_refl _, fun k hk => hk4.block k (by omega)⟩
  obtain ⟨cs, hcs⟩ : ∃ cs, cs = words (newB h bs n) := ⟨_, rfl⟩
  have hcl : cs.length = 16 := by rw [hcs, words_length, hbn]
  have hc1 : ∀ v ∈ cs, v.oneCell' = true := by
    intro v hv
    rw [hcs] at hv
    obtain ⟨s, _, rfl⟩ := List.mem_map.1 hv
    rfl
  have hu := Try.underlying23
  have hi : (Try.prog.info? 23).map (·.size) = some cs.length := by rw [Try.size23, hcl]
  rw [← hcs] at q4
  have HCS : Hid (cs = words (newB h bs n)) := hcs
  clear hcs hw4 hk4 hw3 r3 b3 s3
  obtain ⟨hh, hhe⟩ : ∃ hh, hh = newH h bs n := ⟨_, rfl⟩
  have HH : Hid (hh = newH h bs n) := hhe
  rw [← hhe] at c4
  clear hhe
  obtain ⟨ok, hoke⟩ : ∃ ok, ok = isNew h bs n := ⟨_, rfl⟩
  have HO : Hid (ok = isNew h bs n) := hoke
  rw [← hoke]
  clear hoke
  go_region_held3 (fun w' => w'.cell? ⟨w.heap.size + 1 + 1, 0, none⟩ = some (.int .i32 hh) ∧ w'.rangeAt (w.heap.size + 1 + 1) 1 cs ∧ w'.there (w.heap.size + 1) 0 16) (first | exact ⟨by simpa using c4, by simpa using q4, by simpa using t4⟩ | exact keepS (w' := w4.drew) ⟨by simpa using c4, by simpa using q4, by simpa using t4⟩ hcl) (fail)
  go_wp2
  have hk5 := kept_setCells (w.heap.size + 1) cs 0 w4.drew
  have hr5 : (w4.drew.setCells (w.heap.size + 1) 0 cs).rangeAt (w.heap.size + 1) 0 cs := World.rangeAt_setCells_same _ _ _ _ (by rw [hcl]; simpa using t4)
  have b5 : Below w.heap.size w (w4.drew.setCells (w.heap.size + 1) 0 cs) := b4.trans ⟨hk5.os, hk5.tape, hk5.output, by rw [hk5.size]; exact Nat.le_refl _, fun k hk => hk5.block k (by omega)⟩
  refine bodyPost_ret (v := .tuple #[.bool ok, .int .i32 hh, .agg cs.toArray]) (results7 _ _ (w.heap.size + 1) cs rfl rfl rfl hr5 hi) rfl ⟨?_, b5⟩
  rw [HO.out, HH.out, HCS.out]

end Go.Proofs.Qxb6605427a
