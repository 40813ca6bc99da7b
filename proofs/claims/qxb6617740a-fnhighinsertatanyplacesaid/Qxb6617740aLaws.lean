/-
  SMALL LAWS FOR THIS SEAT: a row of timeout signatures (three cells each: signer, high, a nil slice).
-/
import Derived.WalkKit
import Derived.Deep.AppendLies
import Derived.Test.Qxb6617740aPlain
namespace Go.Proofs.Qxb6617740a
open Go.RowKit

/-- The cells of a list of (signer, high). -/
def tcells (ps : List (Int × Int)) : List Value := ps.flatMap fun p => [.int .u32 p.1, .int .u64 p.2, .slice none 0 0]
theorem tcells_nil : tcells [] = [] := rfl
theorem tcells_snoc (ps : List (Int × Int)) (s h : Int) : tcells (ps ++ [(s, h)]) = tcells ps ++ [.int .u32 s, .int .u64 h, .slice none 0 0] := by
  simp [tcells]
theorem tcells_at (ps : List (Int × Int)) (j : Nat) (hj : j < ps.length) :
    (tcells ps)[j * 3]? = some (.int .u32 (ps.getD j (0, 0)).1) ∧ (tcells ps)[j * 3 + 1]? = some (.int .u64 (ps.getD j (0, 0)).2) ∧ (tcells ps)[j * 3 + 2]? = some (.slice none 0 0) := by
  induction ps generalizing j with
  | nil => simp at hj
  | cons p t ih =>
    have e : tcells (p :: t) = [.int .u32 p.1, .int .u64 p.2, .slice none 0 0] ++ tcells t := rfl
    cases j with
    | zero => simp [e]
    | succ j =>
      have h := ih j (by simpa using hj)
      rw [e, List.getElem?_append_right (by simp; omega), List.getElem?_append_right (by simp; omega), List.getElem?_append_right (by simp; omega)]
      simp only [List.length_cons, List.length_nil, List.getD_cons_succ]
      rw [show (j + 1) * 3 - (0 + 1 + 1 + 1) = j * 3 by omega, show (j + 1) * 3 + 1 - (0 + 1 + 1 + 1) = j * 3 + 1 by omega, show (j + 1) * 3 + 2 - (0 + 1 + 1 + 1) = j * 3 + 2 by omega]
      exact h

/-- Block g holds, from its head on, the signatures ps. -/
def Ts (w : World) (g : Nat) (ps : List (Int × Int)) : Prop := ∀ j, j < ps.length →
  w.cell? ⟨g, j * 3, none⟩ = some (.int .u32 (ps.getD j (0, 0)).1) ∧ w.cell? ⟨g, j * 3 + 1, none⟩ = some (.int .u64 (ps.getD j (0, 0)).2) ∧ w.cell? ⟨g, j * 3 + 2, none⟩ = some (.slice none 0 0)

theorem Ts.of_owns {w : World} {base e g n cap : Nat} {ps : List (Int × Int)} (h : w.ownsRow base e 3 (.slice (some ⟨g, 0, none⟩) n cap) n (tcells ps)) (hn : ps.length = n) : Ts w g ps := by
  intro j hj
  have hc := tcells_at ps j hj
  refine ⟨?_, ?_, ?_⟩
  · rw [h.cellAt _ (by omega)]; exact hc.1
  · rw [h.cellAt _ (by omega)]; exact hc.2.1
  · rw [h.cellAt _ (by omega)]; exact hc.2.2
theorem Ts.below {w w' : World} {g B : Nat} {ps : List (Int × Int)} (h : Ts w g ps) (hb : Below B w w') (hg : g < B) : Ts w' g ps := by
  intro j hj
  have := h j hj
  rw [hb.cell (p := ⟨g, j * 3, none⟩) hg, hb.cell (p := ⟨g, j * 3 + 1, none⟩) hg, hb.cell (p := ⟨g, j * 3 + 2, none⟩) hg]
  exact this

/-- What the walk is told of a slice of numbers that came in, at the places that are read. -/
def Nums (w : World) (k : IntKind) (b off n : Nat) (zs : List Int) : Prop := zs.length = n ∧ b < w.heap.size ∧ ∀ j, j < n → w.cell? ⟨b, off + j, none⟩ = some (.int k (zs.getD j 0))
theorem Nums.below {w w' : World} {k : IntKind} {b off n B : Nat} {zs : List Int} (h : Nums w k b off n zs) (hb : Below B w w') (hB : b < B) : Nums w' k b off n zs :=
  ⟨h.1, Nat.lt_of_lt_of_le h.2.1 hb.size, fun j hj => by rw [hb.cell (p := ⟨b, off + j, none⟩) hB]; exact h.2.2 j hj⟩

/-- The pairs that zzBuildTC gathers. -/
def pairs (ss hs : List Int) (lo k : Nat) : List (Int × Int) := ((ss.zip hs).drop lo).take k
theorem pairs_zero (ss hs : List Int) (lo : Nat) : pairs ss hs lo 0 = [] := by simp [pairs]
theorem pairs_length (ss hs : List Int) (lo k n : Nat) (h1 : ss.length = n) (h2 : hs.length = n) (h : lo + k ≤ n) : (pairs ss hs lo k).length = k := by
  simp [pairs, h1, h2]; omega
theorem pairs_succ (ss hs : List Int) (lo k n : Nat) (h1 : ss.length = n) (h2 : hs.length = n) (h : lo + k < n) : pairs ss hs lo (k + 1) = pairs ss hs lo k ++ [(ss.getD (lo + k) 0, hs.getD (lo + k) 0)] := by
  unfold pairs
  rw [take_snoc _ (0, 0) k (by simp [h1, h2]; omega)]
  congr 2
  simp [List.getElem?_drop, show lo + k < ss.length by omega, show lo + k < hs.length by omega, List.getElem?_eq_getElem (show lo + k < (ss.zip hs).length by simp [h1, h2]; omega)]
theorem pairs_highs (ss hs : List Int) (lo k n : Nat) (h1 : ss.length = n) (h2 : hs.length = n) : (pairs ss hs lo k).map (·.2) = (hs.drop lo).take k := by
  unfold pairs
  rw [List.map_take, List.map_drop, List.map_snd_zip (by omega)]
end Go.Proofs.Qxb6617740a
