/-
  THE PLAIN LAW, no Go in sight: counts, places in sorted order, the rounds of an insertion sort, the largest of a list.
-/
namespace Go.Proofs.Qxb6617706a
def cLt (l : List Int) (k : Int) : Nat := l.countP (fun v => decide (v < k))
def cEq (l : List Int) (k : Int) : Nat := l.countP (fun v => decide (v = k))

theorem cLt_le (l : List Int) (k : Int) : cLt l k ≤ l.length := List.countP_le_length
theorem cEq_le (l : List Int) (k : Int) : cEq l k ≤ l.length := List.countP_le_length

theorem cLt_succ (l : List Int) (k : Int) : cLt l (k + 1) = cLt l k + cEq l k := by
  induction l with
  | nil => rfl
  | cons a t ih =>
    unfold cLt cEq at *
    simp only [List.countP_cons, ih]
    by_cases h1 : a < k
    · simp [h1, show a < k + 1 by omega, show ¬ a = k by omega]; omega
    · by_cases h2 : a = k
      · subst h2; simp [show a < a + 1 by omega]; omega
      · simp [h1, h2, show ¬ a < k + 1 by omega]

theorem cLt_perm {l m : List Int} (h : l.Perm m) (k : Int) : cLt l k = cLt m k := h.countP_eq _

theorem cLt_zero (l : List Int) (h : ∀ v ∈ l, 0 ≤ v) : cLt l 0 = 0 := by
  unfold cLt
  rw [List.countP_eq_zero]
  intro v hv
  have := h v hv
  simp; omega

theorem cEq_snoc (l : List Int) (x k : Int) : cEq (l ++ [x]) k = cEq l k + if x = k then 1 else 0 := by
  unfold cEq
  simp [List.countP_append, List.countP_cons]

/-- The places up to i hold the sorted elements. -/
def SortedTo (l : List Int) (i : Nat) : Prop := ∀ a b, a < b → b < i → l.getD a 0 ≤ l.getD b 0

theorem place (l : List Int) (i : Nat) (k : Int) (hs : SortedTo l l.length) (hi : i ≤ l.length) (h1 : ∀ j, j < i → l.getD j 0 < k) (h2 : i < l.length → k ≤ l.getD i 0) : cLt l k = i := by
  have e : l = l.take i ++ l.drop i := (List.take_append_drop i l).symm
  unfold cLt
  rw [e, List.countP_append]
  have a1 : (l.take i).countP (fun v => decide (v < k)) = (l.take i).length := by
    rw [List.countP_eq_length]
    intro v hv
    obtain ⟨j, hj, rfl⟩ := List.getElem_of_mem hv
    have hj' : j < i := by simp at hj; omega
    have := h1 j hj'
    rw [List.getElem_take]
    rw [List.getD_eq_getElem?_getD, List.getElem?_eq_getElem (by omega)] at this
    simpa using this
  have a2 : (l.drop i).countP (fun v => decide (v < k)) = 0 := by
    rw [List.countP_eq_zero]
    intro v hv
    obtain ⟨j, hj, rfl⟩ := List.getElem_of_mem hv
    have hj' : i + j < l.length := by simp at hj; omega
    have b := h2 (by omega)
    have c : l.getD i 0 ≤ l.getD (i + j) 0 := by
      by_cases hj0 : j = 0
      · subst hj0; exact Int.le_refl _
      · exact hs i (i + j) (by omega) hj'
    rw [List.getElem_drop]
    have d : l.getD (i + j) 0 = l[i + j] := by simp [hj']
    rw [d] at c
    simp; omega
  rw [a1, a2]
  simp; omega

/-! ### The insertion sort's rounds. 'zs': what the cells hold; 'zs.set j x': the list that is meant. -/
structure Ins (xs zs : List Int) (i j : Nat) (x : Int) : Prop where
  len : zs.length = xs.length
  ji : j ≤ i
  il : i < xs.length
  perm : (zs.set j x).Perm xs
  sorted : ∀ a b, a < b → b ≤ i → a ≠ j → b ≠ j → zs.getD a 0 ≤ zs.getD b 0
  above : ∀ b, j < b → b ≤ i → x ≤ zs.getD b 0

theorem getD_set (l : List Int) (j a : Nat) (x : Int) (hj : j < l.length) : (l.set j x).getD a 0 = if a = j then x else l.getD a 0 := by
  simp only [List.getD_eq_getElem?_getD, List.getElem?_set]
  by_cases h : j = a
  · subst h; simp [hj]
  · simp [h, Ne.symm h]

theorem set_getD (l : List Int) (i : Nat) (hi : i < l.length) : l.set i (l.getD i 0) = l := by
  apply List.ext_getElem?
  intro k
  rw [List.getElem?_set]
  by_cases h : i = k
  · subst h; simp [hi]
  · simp [h]

theorem ins_start {xs ys : List Int} {i : Nat} (hl : ys.length = xs.length) (hp : ys.Perm xs) (hi : i < xs.length) (hs : SortedTo ys i) : Ins xs ys i i (ys.getD i 0) :=
  ⟨hl, Nat.le_refl _, hi, by rw [set_getD _ _ (by omega)]; exact hp, fun a b h1 h2 _ h4 => hs a b h1 (by omega), fun b h1 h2 => by omega⟩

theorem ins_step {xs zs : List Int} {i j : Nat} {x : Int} (h : Ins xs zs i (j + 1) x) (hx : x < zs.getD j 0) : Ins xs (zs.set (j + 1) (zs.getD j 0)) i j x := by
  have hl := h.len
  have hji := h.ji
  have hil := h.il
  have hj1 : j + 1 < zs.length := by omega
  refine ⟨by simpa using hl, by omega, hil, ?_, ?_, ?_⟩
  · refine List.Perm.trans ?_ h.perm
    have p := List.set_set_perm (as := zs.set (j + 1) x) (i := j + 1) (j := j) (by simpa using hj1) (by simp; omega)
    have e1 : (zs.set (j + 1) x)[j]'(by simp; omega) = zs.getD j 0 := by
      rw [List.getElem_set]; simp [show j < zs.length by omega]
    have e2 : (zs.set (j + 1) x)[j + 1]'(by simpa using hj1) = x := by rw [List.getElem_set]; simp
    rw [e1, e2, List.set_set] at p
    exact p
  · intro a b hab hb ha' hb'
    rw [getD_set _ _ _ _ hj1, getD_set _ _ _ _ hj1]
    by_cases h1 : a = j + 1
    · rw [if_pos h1, if_neg (by omega)]
      exact h.sorted j b (by omega) hb (by omega) (by omega)
    · rw [if_neg h1]
      by_cases h2 : b = j + 1
      · rw [if_pos h2]
        exact h.sorted a j (by omega) (by omega) h1 (by omega)
      · rw [if_neg h2]
        exact h.sorted a b hab hb h1 h2
  · intro b hb hbi
    rw [getD_set _ _ _ _ hj1]
    by_cases h2 : b = j + 1
    · rw [if_pos h2]; omega
    · rw [if_neg h2]; exact h.above b (by omega) hbi

theorem ins_end {xs zs : List Int} {i j : Nat} {x : Int} (h : Ins xs zs i j x) (hx : j = 0 ∨ zs.getD (j - 1) 0 ≤ x) : (zs.set j x).length = xs.length ∧ (zs.set j x).Perm xs ∧ SortedTo (zs.set j x) (i + 1) := by
  have hl := h.len
  have hji := h.ji
  have hil := h.il
  have hj1 : j < zs.length := by omega
  refine ⟨by simpa using hl, h.perm, ?_⟩
  intro a b hab hb
  rw [getD_set _ _ _ _ hj1, getD_set _ _ _ _ hj1]
  by_cases h1 : a = j
  · rw [if_pos h1, if_neg (by omega)]
    exact h.above b (by omega) (by omega)
  · rw [if_neg h1]
    by_cases h2 : b = j
    · rw [if_pos h2]
      rcases hx with hx | hx
      · omega
      · by_cases h3 : a = j - 1
        · rw [h3]; exact hx
        · exact Int.le_trans (h.sorted a (j - 1) (by omega) (by omega) h1 (by omega)) hx
    · rw [if_neg h2]
      exact h.sorted a b hab (by omega) h1 h2

theorem sorted_one (l : List Int) : SortedTo l 1 := fun a b h1 h2 => by omega
theorem sorted_mono {l : List Int} {i j : Nat} (h : SortedTo l j) (hij : i ≤ j) : SortedTo l i := fun a b h1 h2 => h a b h1 (by omega)

/-! ### The largest -/
def top (l : List Int) : Int := l.foldl max 0
theorem top_snoc (l : List Int) (x : Int) : top (l ++ [x]) = max (top l) x := by simp [top]
theorem foldl_max_ge (l : List Int) (a : Int) : a ≤ l.foldl max a ∧ ∀ v ∈ l, v ≤ l.foldl max a := by
  induction l generalizing a with
  | nil => simp
  | cons x t ih =>
    have h := ih (max a x)
    simp only [List.foldl_cons, List.mem_cons]
    refine ⟨by omega, ?_⟩
    rintro v (rfl | hv)
    · omega
    · exact h.2 v hv
theorem foldl_max_mem (l : List Int) (a : Int) : l.foldl max a = a ∨ l.foldl max a ∈ l := by
  induction l generalizing a with
  | nil => simp
  | cons x t ih =>
    simp only [List.foldl_cons, List.mem_cons]
    rcases ih (max a x) with h | h
    · rcases Int.le_total a x with h' | h'
      · right; left; rw [h]; omega
      · left; rw [h]; omega
    · exact .inr (.inr h)
theorem top_nonneg (l : List Int) : 0 ≤ top l := (foldl_max_ge l 0).1
theorem le_top (l : List Int) {v : Int} (h : v ∈ l) : v ≤ top l := (foldl_max_ge l 0).2 v h
theorem top_le (l : List Int) (b : Int) (hb : 0 ≤ b) (h : ∀ v ∈ l, v ≤ b) : top l ≤ b := by
  rcases foldl_max_mem l 0 with e | e
  · unfold top; omega
  · exact h _ e

/-- The last of the sorted elements is the largest. -/
theorem last_top {xs ys : List Int} (hp : ys.Perm xs) (hs : SortedTo ys ys.length) (h0 : 0 < ys.length) (hn : ∀ v ∈ xs, 0 ≤ v) : ys.getD (ys.length - 1) 0 = top xs := by
  have hm : ys.getD (ys.length - 1) 0 ∈ ys := by
    have : ys.length - 1 < ys.length := by omega
    simp [this]
  have h1 : ys.getD (ys.length - 1) 0 ≤ top xs := le_top _ (hp.mem_iff.1 hm)
  have h2 : top xs ≤ ys.getD (ys.length - 1) 0 := by
    refine top_le _ _ (hn _ (hp.mem_iff.1 hm)) fun v hv => ?_
    obtain ⟨j, hj, rfl⟩ := List.getElem_of_mem (hp.mem_iff.2 hv)
    have e : ys[j] = ys.getD j 0 := by simp [hj]
    rw [e]
    by_cases h : j = ys.length - 1
    · rw [h]; exact Int.le_refl _
    · exact hs j _ (by omega) (by omega)
  omega

theorem take_snoc (l : List Int) (k : Nat) (h : k < l.length) : l.take (k + 1) = l.take k ++ [l.getD k 0] := by
  rw [List.take_succ_eq_append_getElem h]
  simp [h]
theorem top_take (l : List Int) (k : Nat) (h : k < l.length) : top (l.take (k + 1)) = max (top (l.take k)) (l.getD k 0) := by
  rw [take_snoc l k h, top_snoc]
theorem getD_le_top (l : List Int) (k : Nat) (h : k < l.length) : l.getD k 0 ≤ top l := by
  refine le_top l ?_
  simp [h]
theorem getD_all {p : Int → Prop} (l : List Int) (hp : ∀ v ∈ l, p v) (k : Nat) (h : k < l.length) : p (l.getD k 0) := by
  refine hp _ ?_
  simp [h]
theorem top_take_le (l : List Int) (k : Nat) : top (l.take k) ≤ top l :=
  top_le _ _ (top_nonneg l) fun _ hv => le_top l (List.mem_of_mem_take hv)

/-! ### The counting: what the cells hold behind k values; then behind the sums up to place v -/
structure Cnt (xs ls : List Int) (m k : Nat) : Prop where
  len : ls.length = m + 2
  at_ : ∀ j, j < m + 2 → ls.getD j 0 = (cEq (xs.take k) ((j : Int) - 1) : Nat)

theorem cnt_zero (xs : List Int) (m : Nat) : Cnt xs (List.replicate (m + 2) 0) m 0 :=
  ⟨by simp, fun j hj => by simp [hj, cEq]⟩

theorem cnt_step {xs ls : List Int} {m k : Nat} {v : Nat} (h : Cnt xs ls m k) (hk : k < xs.length) (hv : xs.getD k 0 = (v : Int)) (hm : v ≤ m) : Cnt xs (ls.set (v + 1) (ls.getD (v + 1) 0 + 1)) m (k + 1) := by
  refine ⟨by simpa using h.len, fun j hj => ?_⟩
  have hl := h.len
  rw [getD_set _ _ _ _ (by omega), take_snoc xs k hk, cEq_snoc, hv]
  by_cases e : j = v + 1
  · rw [if_pos e, if_pos (by omega), h.at_ (v + 1) (by omega), e]
    simp
  · rw [if_neg e, if_neg (by omega), h.at_ j hj]
    simp

theorem cnt_bd {xs ls : List Int} {m k j : Nat} (h : Cnt xs ls m k) (hj : j < m + 2) : 0 ≤ ls.getD j 0 ∧ ls.getD j 0 ≤ xs.length := by
  rw [h.at_ j hj]
  have := cEq_le (xs.take k) ((j : Int) - 1)
  have h2 : (xs.take k).length ≤ xs.length := List.length_take_le' _ _
  omega

structure Pre (xs ls : List Int) (m v : Nat) : Prop where
  len : ls.length = m + 2
  at_ : ∀ j, j < m + 2 → ls.getD j 0 = if j < v then ((cLt xs (j : Int) : Nat) : Int) else (cEq xs ((j : Int) - 1) : Nat)

theorem cEq_neg (l : List Int) (h : ∀ v ∈ l, 0 ≤ v) : cEq l (-1) = 0 := by
  unfold cEq
  rw [List.countP_eq_zero]
  intro v hv
  have := h v hv
  simp; omega

theorem pre_start {xs ls : List Int} {m : Nat} (h : Cnt xs ls m xs.length) (hn : ∀ v ∈ xs, 0 ≤ v) : Pre xs ls m 1 := by
  refine ⟨h.len, fun j hj => ?_⟩
  rw [h.at_ j hj, List.take_length]
  by_cases e : j < 1
  · rw [if_pos e]
    obtain rfl : j = 0 := by omega
    rw [show (((0 : Nat) : Int) - 1) = -1 by omega, cEq_neg xs hn, show (((0 : Nat) : Int)) = 0 by omega, cLt_zero xs hn]
    rfl
  · rw [if_neg e]

theorem pre_step {xs ls : List Int} {m v : Nat} (h : Pre xs ls m (v + 1)) (hv : v + 1 < m + 2) : Pre xs (ls.set (v + 1) (ls.getD (v + 1) 0 + ls.getD v 0)) m (v + 2) := by
  refine ⟨by simpa using h.len, fun j hj => ?_⟩
  have hl := h.len
  rw [getD_set _ _ _ _ (by omega)]
  by_cases e : j = v + 1
  · rw [if_pos e, h.at_ (v + 1) hv, h.at_ v (by omega), if_neg (by omega), if_pos (by omega), if_pos (by omega), e]
    have := cLt_succ xs (v : Int)
    rw [show (((v + 1 : Nat) : Int) - 1) = (v : Int) by omega, show (((v + 1 : Nat) : Int)) = (v : Int) + 1 by omega]
    omega
  · rw [if_neg e, h.at_ j hj]
    by_cases e2 : j < v + 1
    · rw [if_pos e2, if_pos (by omega)]
    · rw [if_neg e2, if_neg (by omega)]

theorem pre_bd {xs ls : List Int} {m v j : Nat} (h : Pre xs ls m v) (hj : j < m + 2) : 0 ≤ ls.getD j 0 ∧ ls.getD j 0 ≤ xs.length := by
  rw [h.at_ j hj]
  have := cEq_le xs ((j : Int) - 1)
  have h2 := cLt_le xs (j : Int)
  split <;> omega

theorem pre_end {xs ls : List Int} {m v : Nat} (h : Pre xs ls m v) (hv : m + 2 ≤ v) (k : Nat) (hk : k < m + 2) : ls.getD k 0 = (cLt xs (k : Int) : Nat) := by
  rw [h.at_ k hk, if_pos (by omega)]

/-! ### A copy, cell by cell -/
def copied (xs : List Int) (k : Nat) : List Int := xs.take k ++ List.replicate (xs.length - k) 0
theorem copied_zero (xs : List Int) : copied xs 0 = List.replicate xs.length 0 := by simp [copied]
theorem copied_all (xs : List Int) : copied xs xs.length = xs := by simp [copied]
theorem copied_length (xs : List Int) (k : Nat) (hk : k ≤ xs.length) : (copied xs k).length = xs.length := by simp [copied]; omega
theorem copied_set (xs : List Int) (k : Nat) (hk : k < xs.length) : (copied xs k).set k (xs.getD k 0) = copied xs (k + 1) := by
  unfold copied
  rw [take_snoc xs k hk, show xs.length - k = (xs.length - (k + 1)) + 1 by omega, List.replicate_succ, List.set_append_right _ _ (by simp; omega)]
  simp [show min k xs.length = k by omega]
end Go.Proofs.Qxb6617706a
