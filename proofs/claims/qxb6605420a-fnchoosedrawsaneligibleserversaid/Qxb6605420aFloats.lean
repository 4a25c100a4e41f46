/-
  SEAT b6605420a: A SLICE OF float64: what the walks are told of it; its clone (9: zzCloneFloats); the guard of FnChooseDrawsAnEligibleServer (6); a slice that came in, opened.
-/
import Derived.Test.Qxb6605420aAny
import Derived.ProofKit
import Derived.OpenShut
namespace Go.Proofs.Qxb6605420a
open Go.RowKit Go.Maps
open Go.WideMaps (keyOf_string_mk)
set_option linter.unusedVariables false

theorem Try.cells24 : Try.prog.cellsOf 24 = 1 := by kernel_rfl
theorem Try.info24 : (Try.prog.info? 24).map (fun i => (i.zero, i.size, i.bytes)) = some (some (.float .f64 0), 1, 8) := by kernel_rfl
theorem Try.size24 : (Try.prog.info? 24).map (·.size) = some 1 := by kernel_rfl

structure IsFlts (w : World) (a : Option Addr) (len : Nat) (fs : List Nat) : Prop where
  length : fs.length = len
  most : len ≤ maxLen
  cells : 0 < len → ∃ b off, a = some ⟨b, off, none⟩ ∧ b < w.heap.size ∧ ∀ j, j < len → w.cell? ⟨b, off + j, none⟩ = some (.float .f64 (fs.getD j 0))

theorem IsFlts.index {w : World} {a : Option Addr} {len : Nat} {fs : List Nat} (h : IsFlts w a len fs) (cap : Nat) :
    ∃ b off, (∀ (k : Nat) (wx : World), k < len → (Instr.indexAt 23 (.slice a len cap) (.int .i64 k)).run Try.prog wx = .ok (.pointer (some ⟨b, off + k, none⟩)) wx) ∧
      (∀ (w' : World), Below w.heap.size w w' → ∀ j, j < len → w'.cell? ⟨b, off + j, none⟩ = some (.float .f64 (fs.getD j 0))) := by
  rcases Nat.eq_zero_or_pos len with h0 | h0
  · subst h0
    exact ⟨0, 0, fun k wx hk => by omega, fun w' hb j hj => by omega⟩
  · obtain ⟨b, off, rfl, hbs, hc⟩ := h.cells h0
    refine ⟨b, off, fun k wx hk => ?_, fun w' hb j hj => (hb.cell (p := ⟨b, off + j, none⟩) hbs).trans (hc j hj)⟩
    have e : Try.prog.underlying 23 = some (.slice (Try.prog.elem 23)) := by kernel_rfl
    have e3 : (sizeOf (Try.prog.elem 23)).run Try.prog wx = .ok 1 wx := by kernel_rfl
    rw [run_indexAt_slice wx 23 _ len cap .i64 k e]
    simp [hk, WideShapes.add_plain, e3, Result.andThen]

theorem IsFlts.kept {w w' : World} {a : Option Addr} {len : Nat} {fs : List Nat} (h : IsFlts w a len fs) (hb : Below w.heap.size w w') : IsFlts w' a len fs :=
  ⟨h.length, h.most, fun h0 => by
    obtain ⟨b, off, ha, hbs, hc⟩ := h.cells h0
    exact ⟨b, off, ha, Nat.lt_of_lt_of_le hbs hb.size, fun j hj => (hb.cell (p := ⟨b, off + j, none⟩) hbs).trans (hc j hj)⟩⟩

def RetFlts (w' : World) (e : Ending) (l : List Nat) : Prop :=
  ∃ a c, e = .returned (.slice a l.length c) ∧ IsFlts w' a l.length l ∧ (a = none → l.length = 0 ∧ c = 0)

/-! ### 9: zzCloneFloats -/
set_option maxHeartbeats 400000 in
theorem clonef_nil (w : World) : Calls Try.prog 9 #[.slice none 0 0] w fun e w' => e = .returned (.slice none 0 0) ∧ w = w' := by
  have hn := fun (a : Option Addr) (n c : Nat) (w : World) => Lib.run_eql_slice_nil (P := Try.prog) w 23 24 a n c 0 0 Try.underlying23
  go_enter Try.func9, Try.ntmps9
  go_wp2
  go_ret
  exact ⟨rfl, rfl⟩

theorem flts_oneCell (fs : List Nat) : ∀ v ∈ fs.map (Value.float .f64), v.oneCell' = true := by
  intro v hv
  obtain ⟨s, _, rfl⟩ := List.mem_map.1 hv
  rfl

theorem copyf_src {w w1 : World} {x : Addr} {len : Nat} {fs : List Nat} (hs : IsFlts w (some x) len fs) (hb : Below w.heap.size w w1) (g : Nat) :
    0 < (fs.map (Value.float .f64)).length → (some ⟨g, 0, none⟩ : Option Addr) = some ⟨g, 0, none⟩ ∧ ∃ ad, some x = some ad ∧ ∀ j v, (fs.map (Value.float .f64))[j]? = some v → w1.cell? (ad.add j) = some v := by
  intro h0
  have hl := hs.length
  obtain ⟨b, off, hx, hbs, hc⟩ := hs.cells (by simp at h0; omega)
  cases hx
  refine ⟨rfl, _, rfl, ?_⟩
  intro j v hv
  rw [List.getElem?_map] at hv
  cases hj : fs[j]? with
  | none => rw [hj] at hv; cases hv
  | some s =>
    rw [hj] at hv
    simp at hv
    subst hv
    have hjl := (List.getElem?_eq_some_iff.1 hj).1
    have := hc j (by omega)
    rw [List.getD, hj] at this
    have e := hb.cell (p := ⟨b, off + j, none⟩) hbs
    rw [this] at e
    rw [WideShapes.add_plain]
    exact e

set_option maxHeartbeats 400000 in
theorem clonef_some (x : Addr) (len cap : Nat) (ss : List Nat) (w : World) (hs : IsFlts w (some x) len ss) (h4 : len ≤ 4096) :
    Calls Try.prog 9 #[.slice (some x) len cap] w fun e w' => e = .returned (.slice (some ⟨w.heap.size, 0, none⟩) len len) ∧ w'.ownsRow w.heap.size 24 1 (.slice (some ⟨w.heap.size, 0, none⟩) len len) len (ss.map (Value.float .f64)) ∧ Below w.heap.size w w' := by
  have hn := fun (a : Option Addr) (n c : Nat) (w : World) => Lib.run_eql_slice_nil (P := Try.prog) w 23 24 a n c 0 0 Try.underlying23
  obtain ⟨i0, hi, hz0, hz1, hz2⟩ := info_parts Try.info24
  have hl := hs.length
  go_enter Try.func9, Try.ntmps9
  go_wp2_with (first
    | (at_make; refine wpList_make_full _ rfl _ _ 23 rfl w.heap.size 24 i0 (.float .f64 0) 1 Try.underlying23 hi hz0 hz1 .i64 .i64 _ _ len rfl rfl rfl rfl ?_ ?_ ?_ ?_)
    | go_in)
  · have := hz2; rw [this]; omega
  · unfold maxLen; omega
  · exact Nat.le_refl _
  · intro w1 hown1 hg1
    obtain ⟨_, hblk⟩ := own_block hown1
    have hb1 : Below w.heap.size w w1 := (Below.refl _ _).grown hg1 (Nat.le_refl _) (fun _ h => by cases h)
    have hlen1 := hown1.1
    clear hown1 hg1
    generalize (madeCells #[Value.float FloatKind.f64 0] len).toList = cur at hblk hlen1
    have HB : Hid (w1.heap[w.heap.size]? = some (.cells cur.toArray 24 (0, 0))) := hblk
    clear hblk
    go_wp2_with (first
      | (refine wpList_copy_splice rfl _ _ 23 23 rfl 24 Try.underlying23 Try.size24 _ _ _ _ _ _ rfl rfl w.heap.size 0 cur 24 HB.out (ss.map (Value.float .f64)) ?_ (copyf_src hs hb1 w.heap.size) ?_ (flts_oneCell ss) w.heap.size w hb1 (Nat.le_refl _) ?_)
      | go_in)
    · simp; omega
    · simp; omega
    · intro w2 HG hB2
      rw [splice_whole cur _ (by simp; omega)] at HG
      go_wp2
      go_ret
      exact ⟨rfl, own_of_block (Nat.le_refl _) (by simp; omega) (by unfold maxLen; omega) HG.out, hB2⟩

theorem clonef_any {w : World} {a : Option Addr} {len : Nat} {ss : List Nat} (h : IsFlts w a len ss) (cap : Nat) (hnil : a = none → len = 0 ∧ cap = 0) (h4 : len ≤ 4096) :
    Calls Try.prog 9 #[.slice a len cap] w fun e w' => RetFlts w' e ss ∧ Below w.heap.size w w' := by
  have hl := h.length
  cases a with
  | none =>
    obtain ⟨rfl, rfl⟩ := hnil rfl
    refine (clonef_nil w).mono ?_
    rintro e w' ⟨rfl, rfl⟩
    obtain rfl := List.eq_nil_of_length_eq_zero hl
    exact ⟨⟨none, 0, rfl, h, fun _ => ⟨rfl, rfl⟩⟩, Below.refl _ _⟩
  | some x =>
    refine (clonef_some x len cap ss w h h4).mono ?_
    rintro e w' ⟨rfl, hrow, hb⟩
    subst hl
    refine ⟨⟨_, _, rfl, ⟨rfl, h.most, fun h0 => ⟨_, 0, rfl, (hrow.lt _ rfl).2, fun j hj => ?_⟩⟩, fun e => by cases e⟩, hb⟩
    rw [Nat.zero_add, hrow.cellAt j (by omega), List.getElem?_map, List.getElem?_eq_getElem hj]
    simp [List.getElem?_eq_getElem hj]

/-! ### 6: zzBytes_FnChooseDrawsAnEligibleServer -/
theorem guard6_any {w : World} {a b : Option Addr} {la lb : Nat} {sa : List ByteArray} {fb : List Nat} (ha : IsStrs w a la sa) (hb : IsFlts w b lb fb) (ca cb u : Nat) :
    Calls Try.prog 6 #[.slice a la ca, .slice b lb cb, .float .f64 u] w fun e w' => RetBool e ∧ w = w' := by
  obtain ⟨ba, oa, ia, xa⟩ := ha.index ca
  have ca := xa w (Below.refl _ _)
  have ma := ha.most
  have mb := hb.most
  unfold maxLen at ma mb
  clear xa ha hb
  go_enter Try.func6, Try.ntmps6
  go_wp2
  · go_ret
    exact ⟨⟨_, rfl⟩, rfl⟩
  go_loop [7, 8] (fun t i => ∃ (k : Nat) (n : Int), k ≤ la ∧ i = .int .i64 k ∧ t = .int .i64 n) (fun _ i => la - (intOf i).toNat)
  case atStart => exact ⟨0, _, Nat.zero_le _, rfl, rfl⟩
  case round =>
    obtain ⟨k, n, hk, rfl, rfl⟩ := hrel
    by_cases hlt : k < la
    · have hcell := ca k hlt
      go_wp2
      · go_ret
        exact ⟨⟨_, rfl⟩, rfl⟩
      · go_ret
        exact ⟨⟨_, rfl⟩, rfl⟩
      · go_round
        case rel => exact ⟨k + 1, _, by omega, by go_num, rfl⟩
        case measure => simp [intOf]; omega
    · clear ca ia
      go_wp2
      all_goals
        go_ret
        exact ⟨⟨_, rfl⟩, rfl⟩

/-! ### a slice of float64 that came in -/
theorem trod_float24 {H : Type} {enc : TypeId × Value → H} {w : World} {base : Nat} {spare : Nat → Bool} {held : Bool} {fuel : Nat} {cs : List Value} {x : DataW H × List MemPlace}
    (h : DataW.trod enc Try.prog w base spare held fuel 24 cs = some x) : ∃ q, cs = [.float .f64 q] := by
  cases fuel with
  | zero => simp [DataW.trod] at h
  | succ n =>
    unfold DataW.trod at h
    rw [Try.underlying24] at h
    split at h <;> simp_all

def bitsOf : Option Value → Nat | some (.float _ q) => q | _ => 0

open Go.ChangeShapes Go.WideShapes Go.ChangeAt in
theorem open_flts_row {H : Type} {enc : TypeId × Value → H} {W : World} {a : Option Addr} {len cap : Nat} {d : DataW H} {p : List MemPlace}
    (h : DataW.Trod enc Try.prog W 0 (fun _ => true) true 23 (.slice a len cap) d p) :
    ∃ fs, IsFlts W a len fs ∧ (a = none → len = 0 ∧ cap = 0) := by
  obtain ⟨fuel, hf⟩ := h
  rcases DataW.trod_slice Try.underlying23 hf with ⟨hcs, _⟩ | ⟨x, l, c, elems, rest, n, _, hcs, _, _, hl, hm, hlen, hel, _, _⟩
  · simp [Value.cells] at hcs
    obtain ⟨rfl, rfl, rfl⟩ := hcs
    exact ⟨[], ⟨rfl, Nat.zero_le _, fun h => by cases h⟩, fun _ => ⟨rfl, rfl⟩⟩
  · simp [Value.cells] at hcs
    obtain ⟨rfl, rfl, rfl⟩ := hcs
    have each : ∀ i, i < len → ∃ q, W.cell? (x.add i) = some (.float .f64 q) := by
      intro i hi
      have h1 := hel i hi
      rw [Try.cells24, Nat.mul_one, List.getElem?_eq_getElem (by omega), Option.bind_eq_some_iff] at h1
      obtain ⟨cs, hcs, hy⟩ := h1
      obtain ⟨q, rfl⟩ := trod_float24 hy
      exact ⟨q, cell_of_cells?_one hcs⟩
    refine ⟨(List.range len).map (fun i => bitsOf (W.cell? (x.add i))), ⟨by simp, by omega, fun h0 => ?_⟩, fun h => by cases h⟩
    obtain ⟨b, off, spot⟩ := x
    obtain ⟨q0, c0⟩ := each 0 h0
    have hspot : spot = none := by simpa [Addr.add] using World.cell?_spot c0
    subst hspot
    refine ⟨b, off, rfl, World.block_lt_of_cell? _ _ c0, fun j hj => ?_⟩
    obtain ⟨q, hq⟩ := each j hj
    have e : ((List.range len).map (fun i => bitsOf (W.cell? ((⟨b, off, none⟩ : Addr).add i)))).getD j 0 = q := by
      rw [List.getD, List.getElem?_map, List.getElem?_range hj]
      simp [hq, bitsOf]
    rw [e, ← hq, add_plain]

end Go.Proofs.Qxb6605420a
