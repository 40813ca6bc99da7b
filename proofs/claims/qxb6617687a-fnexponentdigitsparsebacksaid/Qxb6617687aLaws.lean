/-
  SMALL LAWS FOR THIS SEAT: a variable of an array type laid whole; the table of digits as a plain function.
-/
import Derived.WalkKit
import Derived.Deep.WholeRow
namespace Go.Proofs.Qxb6617687a
open Go.RowKit

/-- 'var t T', T an array type: a new block of its zero cells. -/
theorem wpList_alloc_row {P : Program} {ops : Array Oper} {rest : List Oper} {o : Oper} {a : Act} {w : World} {Q : Exit → Act → World → Prop} (hgd : o.guard = none) (ty : TypeId) (ho : o.op = .alloc ty)
    (z : Array Value) (n : Nat) (hz : (P.info? ty).map (fun i => (i.zero, i.size)) = some (some (.agg z), n))
    (h : wpList P ops Q rest (a.put o.dst (.pointer (some ⟨w.heap.size, 0, none⟩))) (w.alloc (.cells z ty))) : wpList P ops Q (o :: rest) a w := by
  refine wpList_plain hgd fun K hK => ?_
  have hv := (zero_of_info hz).1 w
  unfold Oper.wp execOp
  simp only [ho, Instr.alloc, Sem.run_bind, Sem.run_pure, Result.andThen_ok, hv, newVar, newRow, newObj, Value.cells]
  exact hK _ _ h

/-- What the table holds at place n. -/
def dig (n : Nat) : Int := ((48 + n / 100) + (48 + n / 10 % 10) * 256 + (48 + n % 10) * 65536 : Nat)

/-- The table behind k rounds. -/
def tab (k : Nat) : Array Value := Array.ofFn (n := 325) fun j => if j.val < k then .int .u32 (dig j.val) else .int .u32 0

theorem tab_size (k : Nat) : (tab k).size = 325 := by simp [tab]
theorem tab_get (k j : Nat) (hj : j < 325) : (tab k)[j]? = some (if j < k then .int .u32 (dig j) else .int .u32 0) := by
  simp [tab, hj]
theorem tab_zero : tab 0 = Array.replicate 325 (.int .u32 0) := by
  apply Array.ext_getElem?
  intro j
  by_cases hj : j < 325
  · rw [tab_get 0 j hj]; simp [hj]
  · rw [Array.getElem?_eq_none (by rw [tab_size]; omega), Array.getElem?_eq_none (by simp; omega)]
theorem tab_set (k : Nat) (hk : k < 325) : (tab k).setIfInBounds k (.int .u32 (dig k)) = tab (k + 1) := by
  apply Array.ext_getElem?
  intro j
  rw [Array.getElem?_setIfInBounds]
  by_cases hj : j < 325
  · rw [tab_get _ j hj, tab_get _ j hj, tab_size]
    by_cases h : k = j
    · subst h; simp [hk]
    · by_cases h2 : j < k
      · simp [h, h2, show j < k + 1 by omega]
      · simp [h, h2, show ¬ j < k + 1 by omega]
  · rw [Array.getElem?_eq_none (by rw [tab_size]; omega), Array.getElem?_eq_none (by rw [tab_size]; omega)]
    simp; omega
theorem tab_one (k : Nat) : (tab k).all (·.oneCell') = true := by
  rw [Array.all_eq_true_iff_forall_mem]
  intro v hv
  obtain ⟨j, hj, rfl⟩ := Array.getElem_of_mem hv
  rw [tab_size] at hj
  have := tab_get k j hj
  rw [Array.getElem?_eq_getElem (by rw [tab_size]; exact hj)] at this
  rw [Option.some.inj this]
  split <;> rfl
end Go.Proofs.Qxb6617687a
