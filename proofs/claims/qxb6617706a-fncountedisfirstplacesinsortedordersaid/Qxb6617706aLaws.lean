/-
  SMALL LAWS FOR THIS SEAT: a block that holds a row of numbers, whole; 'make' of such a row.
-/
import Derived.WalkKit
import Derived.Deep.Draws
import Derived.Test.Qxb6617706aPlain
namespace Go.Proofs.Qxb6617706a
open Go.RowKit

/-- Block g holds the numbers ls of kind k, and nothing else; none of it is frozen. -/
def Row (w : World) (g : Nat) (k : IntKind) (e : TypeId) (ls : List Int) : Prop := w.heap[g]? = some (.cells (ls.map (Value.int k)).toArray e (0, 0))

theorem Row.cell {w : World} {g : Nat} {k : IntKind} {e : TypeId} {ls : List Int} (h : Row w g k e ls) (j : Nat) (hj : j < ls.length) : w.cell? ⟨g, j, none⟩ = some (.int k (ls.getD j 0)) := by
  rw [cell_of_row w g j _ _ _ h]
  simp [hj]
theorem Row.free {w : World} {g : Nat} {k : IntKind} {e : TypeId} {ls : List Int} (h : Row w g k e ls) (j : Nat) : w.frozen? ⟨g, j, none⟩ = false := frozen_of_row w g j _ _ h
theorem Row.stored {w : World} {g : Nat} {k : IntKind} {e : TypeId} {ls : List Int} (h : Row w g k e ls) (j : Nat) (x : Int) : Row (w.setCell ⟨g, j, none⟩ (.int k x)) g k e (ls.set j x) := by
  unfold Row
  rw [heap_setCell_same w g j _ _ _ h, List.map_set, List.setIfInBounds_toArray]
theorem Row.lt {w : World} {g : Nat} {k : IntKind} {e : TypeId} {ls : List Int} (h : Row w g k e ls) : g < w.heap.size := lt_of_block h
theorem Row.kept {w w' : World} {g : Nat} {k : IntKind} {e : TypeId} {ls : List Int} {row : Option Nat} (h : Row w g k e ls) (hg : w.grownBy w' row) (hne : some g ≠ row) : Row w' g k e ls := by
  unfold Row
  rw [hg.block g h.lt hne]
  exact h
theorem Row.below {w w' : World} {g B : Nat} {k : IntKind} {e : TypeId} {ls : List Int} (h : Row w g k e ls) (hb : Below B w w') (hg : g < B) : Row w' g k e ls := by
  unfold Row
  rw [hb.block g hg]
  exact h
theorem Row.drew {w : World} {g : Nat} {k : IntKind} {e : TypeId} {ls : List Int} (h : Row w g k e ls) : Row w.drew g k e ls := h
theorem Row.drewN {w : World} {g : Nat} {k : IntKind} {e : TypeId} {ls : List Int} (h : Row w g k e ls) (n : Nat) : Row (w.drewN n) g k e ls := h

theorem grown_setCell {w w' : World} {g : Nat} (h : w.grownBy w' (some g)) (j : Nat) (u : Value) : w.grownBy (w'.setCell ⟨g, j, none⟩ u) (some g) :=
  ⟨h.os, h.tape, h.output, by simpa [World.setCell] using h.size, fun k hk hne => by rw [Below.heap_setCell _ _ _ _ (fun e => hne (by rw [e]))]; exact h.block k hk hne⟩
theorem grown_drew {w w' : World} {row : Option Nat} (h : w.grownBy w' row) : w.grownBy w'.drew row := ⟨h.os, h.tape, h.output, h.size, h.block⟩
theorem grown_drewN {w w' : World} {row : Option Nat} (h : w.grownBy w' row) (n : Nat) : w.grownBy (w'.drewN n) row := ⟨h.os, h.tape, h.output, h.size, h.block⟩
theorem grown_trans {a b c : World} {row : Option Nat} (h : a.grownBy b row) (k : b.grownBy c row) : a.grownBy c row :=
  ⟨k.os.trans h.os, k.tape.trans h.tape, k.output.trans h.output, Nat.le_trans h.size k.size, fun i hi hne => (k.block i (Nat.lt_of_lt_of_le hi h.size) hne).trans (h.block i hi hne)⟩

theorem grown_setCell_new {w w' : World} {g : Nat} (h : w.grownBy w' none) (hg : w.heap.size ≤ g) (j : Nat) (u : Value) : w.grownBy (w'.setCell ⟨g, j, none⟩ u) none :=
  ⟨h.os, h.tape, h.output, by simpa [World.setCell] using h.size, fun k hk hne => by rw [Below.heap_setCell _ _ _ _ (show k ≠ g by omega)]; exact h.block k hk hne⟩

theorem grown_into {a b c : World} {g : Nat} (h : a.grownBy b none) (k : b.grownBy c (some g)) (hg : a.heap.size ≤ g) : a.grownBy c none :=
  ⟨k.os.trans h.os, k.tape.trans h.tape, k.output.trans h.output, Nat.le_trans h.size k.size, fun i hi hne => (k.block i (Nat.lt_of_lt_of_le hi h.size) (fun e => by have := Option.some.inj e; omega)).trans (h.block i hi hne)⟩
theorem grown_below {a b : World} (h : a.grownBy b none) : Below a.heap.size a b := (Below.refl _ _).grown h (Nat.le_refl _) (fun _ e => by cases e)
theorem Row.other {w : World} {g b : Nat} {k : IntKind} {e : TypeId} {ls : List Int} (h : Row w g k e ls) (hb : g ≠ b) (j : Nat) (u : Value) : Row (w.setCell ⟨b, j, none⟩ u) g k e ls := by
  unfold Row
  rw [Below.heap_setCell _ _ _ _ hb]
  exact h

theorem row_of_owns {w : World} {base g n : Nat} {k : IntKind} {e : TypeId} (h : w.ownsRow base e 1 (.slice (some ⟨g, 0, none⟩) n n) n (madeCells #[Value.int k 0] n).toList) : Row w g k e (List.replicate n 0) := by
  rcases h.2 with ⟨h', _⟩ | ⟨g', cap', cur, h', _, hg, _, _, hcs, htake⟩
  · simp at h'
  · simp only [Value.slice.injEq, Option.some.injEq, Addr.mk.injEq, and_true, true_and] at h'
    obtain ⟨rfl, rfl⟩ := h'
    unfold Row
    rw [hg]
    have e1 : cur.toList = List.replicate n (.int k 0) := by
      rw [List.take_of_length_le (by rw [Array.length_toList, hcs]; exact Nat.le_refl _)] at htake
      rw [htake]
      exact toList_madeCells_one _ _
    have e2 : cur = (List.replicate n (Value.int k 0)).toArray := by rw [← e1]
    rw [e2]
    simp
end Go.Proofs.Qxb6617706a
