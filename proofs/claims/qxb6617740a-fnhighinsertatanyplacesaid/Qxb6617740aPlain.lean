/-
  THE PLAIN LAW, no Go in sight: the largest of a list of numbers that are not negative.
-/
namespace Go.Proofs.Qxb6617740a
def top (l : List Int) : Int := l.foldl max 0

theorem foldl_max (l : List Int) (a : Int) (ha : 0 ≤ a) : l.foldl max a = max a (top l) := by
  unfold top
  induction l generalizing a with
  | nil => simp; omega
  | cons x t ih =>
    simp only [List.foldl_cons]
    rw [ih (max a x) (by omega), ih (max 0 x) (by omega)]
    omega
theorem top_nonneg (l : List Int) : 0 ≤ top l := by
  have := foldl_max l 0 (by omega)
  unfold top at *
  omega
theorem top_append (l m : List Int) : top (l ++ m) = max (top l) (top m) := by
  have h := foldl_max m (top l) (top_nonneg l)
  rw [← h]
  simp [top]
theorem top_one (x : Int) : top [x] = max 0 x := by simp [top]
theorem top_snoc (l : List Int) (x : Int) (hx : 0 ≤ x) : top (l ++ [x]) = max (top l) x := by
  rw [top_append, top_one]
  have := top_nonneg l
  omega
theorem top_split (l : List Int) (k : Nat) : top l = max (top (l.take k)) (top (l.drop k)) := by
  rw [← top_append, List.take_append_drop]
theorem le_top {l : List Int} {v : Int} (h : v ∈ l) : v ≤ top l := by
  induction l with
  | nil => cases h
  | cons x t ih =>
    have e : top (x :: t) = max (max 0 x) (top t) := by
      have := foldl_max t (max 0 x) (by omega)
      simpa [top] using this
    rw [e]
    rcases List.mem_cons.1 h with rfl | h'
    · omega
    · have := ih h'; omega
theorem top_mem (l : List Int) : top l = 0 ∨ top l ∈ l := by
  induction l with
  | nil => left; rfl
  | cons x t ih =>
    have e : top (x :: t) = max (max 0 x) (top t) := by
      have := foldl_max t (max 0 x) (by omega)
      simpa [top] using this
    have hn := top_nonneg t
    rw [e]
    by_cases h : x ≤ top t
    · rcases ih with h' | h'
      · left; omega
      · right
        rw [show max (max 0 x) (top t) = top t by omega]
        exact List.mem_cons_of_mem _ h'
    · by_cases h0 : 0 ≤ x
      · right
        rw [show max (max 0 x) (top t) = x by omega]
        exact List.mem_cons_self
      · left; omega
/-- In a list that is not empty, of numbers that are not negative, the largest stands. -/
theorem top_attained (l : List Int) (h0 : 0 < l.length) (hn : ∀ v ∈ l, 0 ≤ v) : top l ∈ l := by
  rcases top_mem l with h | h
  · match l, h0 with
    | x :: t, _ =>
      have h1 := hn x List.mem_cons_self
      have h2 := le_top (l := x :: t) List.mem_cons_self
      rw [show top (x :: t) = x by omega]
      exact List.mem_cons_self
  · exact h
theorem take_snoc {α : Type} (l : List α) (d : α) (k : Nat) (h : k < l.length) : l.take (k + 1) = l.take k ++ [l.getD k d] := by
  rw [List.take_succ_eq_append_getElem h]
  simp [h]
theorem getD_all {p : Int → Prop} (l : List Int) (hp : ∀ v ∈ l, p v) (k : Nat) (h : k < l.length) : p (l.getD k 0) := by
  refine hp _ ?_
  simp [h]
theorem top_bd (l : List Int) (b : Int) (hb : 0 ≤ b) (h : ∀ v ∈ l, v ≤ b) : top l ≤ b := by
  rcases top_mem l with e | e
  · omega
  · exact h _ e
/-- Does W stand among the first i? -/
def seen (l : List Int) (W : Int) (i : Nat) : Bool := (l.take i).any fun h => decide (h = W)
theorem seen_hit (l : List Int) (W : Int) (i : Nat) (h : i < l.length) (e : l.getD i 0 = W) : seen l W (i + 1) = true := by
  unfold seen
  rw [take_snoc l 0 i h]
  simp only [List.any_append, List.any_cons, e]
  simp
theorem seen_miss (l : List Int) (W : Int) (i : Nat) (h : i < l.length) (e : l.getD i 0 ≠ W) : seen l W (i + 1) = seen l W i := by
  unfold seen
  rw [take_snoc l 0 i h]
  simp only [List.any_append, List.any_cons, decide_eq_false e]
  simp
theorem seen_all (l : List Int) (h0 : 0 < l.length) (hn : ∀ v ∈ l, 0 ≤ v) : seen l (top l) l.length = true := by
  unfold seen
  rw [List.take_length, List.any_eq_true]
  exact ⟨_, top_attained l h0 hn, by simp⟩
end Go.Proofs.Qxb6617740a
