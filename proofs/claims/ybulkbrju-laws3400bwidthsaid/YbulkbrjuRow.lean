/-
  A row of words in a block of the call's own; what is known of the slice that came in.
-/
import Derived.Test.YbulkbrjuWays
import Derived.Laws.CopyOwn
namespace Go.Proofs.Ybulkbrju
open Go.RowKit

theorem Yba.info42 : (Yba.prog.info? 42).map (fun i => (i.zero, i.size, i.bytes)) = some (some (.int .u64 0), 1, 8) := by kernel_rfl
theorem Yba.size42 : (Yba.prog.info? 42).map (·.size) = some 1 := by kernel_rfl

/-- Words as cells. -/
def wcells (Y : List Int) : List Value := Y.map (Value.int .u64)
/-- Block g is the row Y. -/
def RowAt (w : World) (g : Nat) (Y : List Int) : Prop := w.heap[g]? = some (.cells (wcells Y).toArray 42 (0, 0))

theorem RowAt.of_owns {w : World} {B g n : Nat} {Y : List Int} (h : w.ownsRow B 42 1 (.slice (some ⟨g, 0, none⟩) n n) n (wcells Y)) : RowAt w g Y := by
  rcases h.2 with ⟨h0, _⟩ | ⟨g', cap', cur, hv, _, hh, _, _, hs, ht⟩
  · cases h0
  · simp only [Value.slice.injEq, Option.some.injEq, Addr.mk.injEq, and_true, true_and] at hv
    obtain ⟨rfl, rfl⟩ := hv
    rw [List.take_of_length_le (by rw [Array.length_toList]; omega)] at ht
    unfold RowAt
    rw [hh, ← ht]
theorem RowAt.cell {w : World} {g : Nat} {Y : List Int} (h : RowAt w g Y) (j : Nat) (hj : j < Y.length) : w.cell? ⟨g, j, none⟩ = some (.int .u64 (Y.getD j 0)) := by
  unfold RowAt at h
  simp [World.cell?, h, wcells, hj]
theorem RowAt.free {w : World} {g : Nat} {Y : List Int} (h : RowAt w g Y) (j : Nat) : w.frozen? ⟨g, j, none⟩ = false := by
  unfold RowAt at h
  simp [World.frozen?, h]
theorem RowAt.lt {w : World} {g : Nat} {Y : List Int} (h : RowAt w g Y) : g < w.heap.size := lt_of_block h
theorem RowAt.below {w w' : World} {g B : Nat} {Y : List Int} (h : RowAt w g Y) (hb : Below B w w') (hB : g < B) : RowAt w' g Y := (hb.block g hB).trans h
theorem RowAt.alloc {w : World} {g : Nat} {Y : List Int} (h : RowAt w g Y) (o : Obj) : RowAt (w.alloc o) g Y := (Below.heap_alloc w o g h.lt).trans h
theorem RowAt.grown {w w' : World} {g : Nat} {Y : List Int} (h : RowAt w g Y) (hg : w.grownBy w' none) : RowAt w' g Y := (hg.block g h.lt (fun e => by cases e)).trans h
theorem RowAt.set {w : World} {g : Nat} {Y : List Int} (h : RowAt w g Y) (j : Nat) (v : Int) : RowAt (w.setCell ⟨g, j, none⟩ (.int .u64 v)) g (Y.set j v) := by
  unfold RowAt at h ⊢
  have := heap_setCell_same w g j _ 42 (.int .u64 v) h
  rw [this]
  simp [wcells, List.map_set]
theorem RowAt.far {w : World} {g : Nat} {Y : List Int} (h : RowAt w g Y) (a : Addr) (v : Value) (ha : g ≠ a.block) : RowAt (w.setCell a v) g Y := (Below.heap_setCell w a v g ha).trans h
theorem wcells_one (Y : List Int) : ∀ u ∈ wcells Y, u.oneCell' = true := ints_oneCell .u64 Y
theorem made_wcells (n : Nat) : (madeCells (Value.int IntKind.u64 0).cells (n * 1)).toList = wcells (List.replicate n 0) := by
  rw [Nat.mul_one]
  show (madeCells #[Value.int .u64 0] n).toList = _
  rw [toList_madeCells_one]
  simp [wcells]
theorem RowAt.spliced {w : World} {g : Nat} {Z X : List Int} (h : w.heap[g]? = some (.cells (splice (wcells Z) 0 (wcells X)).toArray 42 (0, 0))) (hl : X.length = Z.length) : RowAt w g X := by
  unfold RowAt
  rw [h]
  congr 2
  simp [splice, wcells, hl]

theorem cell_kept {w w' : World} {a : Addr} {v : Value} (hb : Below w.heap.size w w') (h : w.cell? a = some v) : w'.cell? a = some v :=
  (hb.cell (World.block_lt_of_cell? w a h)).trans h
theorem row_src {w : World} {g : Nat} {Y : List Int} (h : RowAt w g Y) (j : Nat) (v : Value) (hj : (wcells Y)[j]? = some v) : w.cell? ((⟨g, 0, none⟩ : Addr).add j) = some v := by
  unfold RowAt at h
  rw [Addr.add_lit, Nat.zero_add]
  simp only [World.cell?, h]
  simpa using hj

theorem RowAt.drewN {w : World} {g : Nat} {Y : List Int} (h : RowAt w g Y) (q : Nat) : RowAt (w.drewN q) g Y := h
theorem below_drewN {B : Nat} {a w : World} (h : Below B a w) (q : Nat) : Below B a (w.drewN q) := ⟨h.os, h.tape, h.output, h.size, h.block⟩

/-- What is known of the slice that came in. -/
structure Came (w : World) (a0 : Option Addr) (len cap : Nat) (z : List Int) : Prop where
  le : len ≤ cap
  size : z.length = cap
  nil : a0 = none → cap = 0
  cells : ∀ x, a0 = some x → ∀ i, i < z.length → w.cell? (x.add i) = some (.int .u64 (z.getD i 0))

theorem came_src {w : World} {a0 : Option Addr} {len cap L : Nat} {z X : List Int} (h : Came w a0 len cap z) (hL : L ≤ len) (hX : X = z.take L) (h0 : 0 < L) :
    ∃ x, a0 = some x ∧ ∀ j v, (wcells X)[j]? = some v → w.cell? (x.add j) = some v := by
  cases a0 with
  | none => have := h.nil rfl; have := h.le; omega
  | some x =>
    refine ⟨x, rfl, fun j v hj => ?_⟩
    have Xl : X.length = L := by rw [hX, List.length_take, h.size]; have := h.le; omega
    have hjL : j < L := by
      have := (List.getElem?_eq_some_iff.1 hj).1
      simp only [wcells, List.length_map, Xl] at this
      exact this
    have hz : j < z.length := by rw [h.size]; have := h.le; omega
    rw [h.cells x rfl j hz]
    rw [hX] at hj
    simp [wcells, hjL, hz] at hj
    rw [← hj]
    simp [hz]

end Go.Proofs.Ybulkbrju
