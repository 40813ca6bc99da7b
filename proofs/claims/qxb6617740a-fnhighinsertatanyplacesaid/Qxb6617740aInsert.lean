import Derived.Test.Qxb6617740aSplit
namespace Go.Proofs.Qxb6617740a
open Go.RowKit

theorem bytes9 (r : Int) (a1 : Option Addr) (n1 c1 : Nat) (a2 : Option Addr) (n2 c2 : Nat) (p s h : Int) (w : World) (h1 : n1 ≤ 65536) (h2 : n2 ≤ 65536) :
    Calls Try.prog 9 #[.int .u64 r, .slice a1 n1 c1, .slice a2 n2 c2, .int .i64 p, .int .u32 s, .int .u64 h] w fun e w' => e = .returned (.bool true) ∧ w = w' := by
  go_enter Try.func9, Try.ntmps9
  go_wp2
  go_ret
  exact ⟨rfl, rfl⟩
theorem bytes9_any (r : Int) (a1 : Option Addr) (n1 c1 : Nat) (a2 : Option Addr) (n2 c2 : Nat) (p s h : Int) (w : World) (h1 : n1 ≤ 9223372036854775807) (h2 : n2 ≤ 9223372036854775807) :
    Calls Try.prog 9 #[.int .u64 r, .slice a1 n1 c1, .slice a2 n2 c2, .int .i64 p, .int .u32 s, .int .u64 h] w fun e w' => ∃ t, e = .returned (.bool t) ∧ w = w' := by
  go_enter Try.func9, Try.ntmps9
  go_wp2
  all_goals (go_ret; exact ⟨_, rfl, rfl⟩)

/-- Where the law answers at once. -/
theorem insert_early (r : Int) (a1 : Option Addr) (n1 c1 : Nat) (a2 : Option Addr) (n2 c2 : Nat) (p s h : Int) (w : World) (h1 : n1 ≤ 9223372036854775807) (h2 : n2 ≤ 9223372036854775807)
    (hc : 65536 < n1 ∨ 65536 < n2 ∨ n1 ≠ n2 ∨ p < 0 ∨ (n2 : Int) < p) :
    Calls Try.prog 4 #[.int .u64 r, .slice a1 n1 c1, .slice a2 n2 c2, .int .i64 p, .int .u32 s, .int .u64 h] w fun e w' => e = .returned (.bool true) ∧ w = w' := by
  have H : Hid (65536 < n1 ∨ 65536 < n2 ∨ n1 ≠ n2 ∨ p < 0 ∨ (n2 : Int) < p) := hc
  clear hc
  by_cases g1 : 65536 < n1
  · go_enter Try.func4, Try.ntmps4
    go_wp2_with fail
    refine (bytes9_any r _ _ _ _ _ _ p s h _ h1 h2).mono ?_
    rintro e w' ⟨t, rfl, rfl⟩
    cases t <;> (go_wp2; go_ret; exact ⟨rfl, rfl⟩)
  · by_cases g2 : 65536 < n2
    · go_enter Try.func4, Try.ntmps4
      go_wp2_with fail
      refine (bytes9_any r _ _ _ _ _ _ p s h _ h1 h2).mono ?_
      rintro e w' ⟨t, rfl, rfl⟩
      cases t <;> (go_wp2; go_ret; exact ⟨rfl, rfl⟩)
    · by_cases g3 : n1 = n2
      · subst g3
        by_cases g4 : p < 0
        · go_enter Try.func4, Try.ntmps4
          go_wp2_with fail
          refine (bytes9_any r _ _ _ _ _ _ p s h _ h1 h2).mono ?_
          rintro e w' ⟨t, rfl, rfl⟩
          cases t <;> (go_wp2; go_ret; exact ⟨rfl, rfl⟩)
        · have g5 : (n1 : Int) < p := by have := H.out; omega
          go_enter Try.func4, Try.ntmps4
          go_wp2_with fail
          refine (bytes9_any r _ _ _ _ _ _ p s h _ h1 h2).mono ?_
          rintro e w' ⟨t, rfl, rfl⟩
          cases t <;> (go_wp2; go_ret; exact ⟨rfl, rfl⟩)
      · have g3' : ((n1 : Int) != (n2 : Int)) = true := by rw [bne_iff_ne]; omega
        go_enter Try.func4, Try.ntmps4
        go_wp2_with fail
        refine (bytes9_any r _ _ _ _ _ _ p s h _ h1 h2).mono ?_
        rintro e w' ⟨t, rfl, rfl⟩
        cases t <;> (go_wp2; go_ret; exact ⟨rfl, rfl⟩)

/-- What is gathered: the first p pairs, the new one, k pairs more. -/
def gathered (ss hs : List Int) (p k : Nat) (s h : Int) : List (Int × Int) := pairs ss hs 0 p ++ [(s, h)] ++ pairs ss hs p k
theorem gathered_zero (ss hs : List Int) (p : Nat) (s h : Int) : gathered ss hs p 0 s h = pairs ss hs 0 p ++ [(s, h)] := by simp [gathered, pairs_zero]
theorem gathered_succ (ss hs : List Int) (p k n : Nat) (s h : Int) (h1 : ss.length = n) (h2 : hs.length = n) (hk : p + k < n) :
    gathered ss hs p (k + 1) s h = gathered ss hs p k s h ++ [(ss.getD (p + k) 0, hs.getD (p + k) 0)] := by
  unfold gathered
  rw [pairs_succ ss hs p k n h1 h2 hk]
  simp
theorem gathered_length (ss hs : List Int) (p k n : Nat) (s h : Int) (h1 : ss.length = n) (h2 : hs.length = n) (hk : p + k ≤ n) : (gathered ss hs p k s h).length = p + 1 + k := by
  unfold gathered
  rw [List.length_append, List.length_append, pairs_length ss hs 0 p n h1 h2 (by omega), pairs_length ss hs p k n h1 h2 hk]
  rfl
theorem gathered_pos (ss hs : List Int) (p k n : Nat) (s h : Int) (h1 : ss.length = n) (h2 : hs.length = n) (hx : ∀ v ∈ hs, 0 ≤ v) (hh : 0 ≤ h) : ∀ q ∈ gathered ss hs p k s h, 0 ≤ q.2 := by
  intro q hq
  unfold gathered at hq
  simp only [List.mem_append, List.mem_singleton] at hq
  rcases hq with (hq | rfl) | hq
  · exact pairs_pos ss hs 0 p n h1 h2 hx q hq
  · exact hh
  · exact pairs_pos ss hs p k n h1 h2 hx q hq
theorem gathered_top (ss hs : List Int) (p n : Nat) (s h : Int) (h1 : ss.length = n) (h2 : hs.length = n) (hh : 0 ≤ h) : top ((gathered ss hs p (n - p) s h).map (·.2)) = max (top hs) h := by
  unfold gathered
  rw [List.map_append, List.map_append, pairs_highs ss hs 0 p n h1 h2, pairs_highs ss hs p (n - p) n h1 h2, List.drop_zero, List.take_of_length_le (l := hs.drop p) (by rw [List.length_drop, h2]; exact Nat.le_refl _),
    top_append, top_append, List.map_cons, List.map_nil, top_one, top_split hs p]
  have := top_nonneg (hs.take p)
  omega

set_option maxHeartbeats 4000000 in
set_option maxRecDepth 100000 in
theorem insert_some (r : Int) (b1 o1 c1 b2 o2 c2 n p : Nat) (s h : Int) (ss hs : List Int) (w : World) (h1 : Nums w .u32 b1 o1 n ss) (h2 : Nums w .u64 b2 o2 n hs) (hp : p ≤ n) (hn0 : 0 < n) (hn : n ≤ 65536) (hh : 0 ≤ h) (hx : Hid (∀ v ∈ hs, 0 ≤ v ∧ v ≤ 18446744073709551615)) :
    Calls Try.prog 4 #[.int .u64 r, .slice (some ⟨b1, o1, none⟩) n c1, .slice (some ⟨b2, o2, none⟩) n c2, .int .i64 p, .int .u32 s, .int .u64 h] w fun e w' => e = .returned (.bool true) ∧ Below w.heap.size w w' := by
  obtain ⟨i5, hi5, hz50, hz51, hz52⟩ := info_parts Try.info35
  have I5 : Hid (Try.prog.info? 35 = some i5 ∧ i5.zero = some (.agg #[.int .u32 0, .int .u64 0, .slice none 0 0]) ∧ i5.size = 3 ∧ i5.bytes = 40) := ⟨hi5, hz50, hz51, hz52⟩
  clear hi5 hz50 hz51 hz52
  have hl1 : Hid (ss.length = n) := h1.1
  have hl2 : Hid (hs.length = n) := h2.1
  have hb1 : b1 < w.heap.size := h1.2.1
  have hb2 : b2 < w.heap.size := h2.2.1
  have nn : ((n : Int) != (n : Int)) = false := by simp
  go_enter Try.func4, Try.ntmps4
  go_wp2_with fail
  refine (bytes9 r _ _ _ _ _ _ p s h _ hn hn).mono ?_
  rintro e w' ⟨rfl, rfl⟩
  go_wp2_with fail
  refine (build_zero r b1 o1 c1 b2 o2 c2 n n ss hs w h1 h2 (Nat.le_refl _) hn).mono ?_
  rintro e w1 ⟨b, g, cap, rfl, hT1, hB1⟩
  go_wp2_with fail
  refine (high_tc hT1 (by omega) (pairs_pos ss hs 0 n n hl1.out hl2.out (fun v hv => (hx.out v hv).1))).mono ?_
  rintro e w2 ⟨rfl, hB2⟩
  have hW2 : Below w.heap.size w w2 := hB1.trans (hB2.mono hB1.size)
  clear hB1 hB2 hT1
  obtain ⟨W, hW⟩ : ∃ W, top ((pairs ss hs 0 n).map (·.2)) = W := ⟨_, rfl⟩
  rw [hW]
  have HW : Hid (top hs = W) := by
    show top hs = W
    rw [← hW, pairs_highs ss hs 0 n n hl1.out hl2.out, List.drop_zero, List.take_of_length_le (by rw [hl2.out]; exact Nat.le_refl _)]
  clear hW
  have hs2 := hW2.size
  go_wp2_with (at_make; refine wpList_make_own w2 rfl _ _ 32 rfl w.heap.size 35 i5 _ 3 Try.underlying32 I5.out.1 I5.out.2.1 I5.out.2.2.1 .i64 .i64 _ (n + 1) rfl rfl (by omega) ?c3 ?c4 hs2 ?_)
  case c3 => rw [I5.out.2.2.2]; omega
  case c4 => unfold maxLen; omega
  intro w3 hown hg3
  have hW3 : Below w.heap.size w w3 := hW2.grown hg3 hs2 (fun _ e => by cases e)
  clear hg3 hW2
  generalize w2.heap.size = g0 at hown hs2 ⊢
  go_wp2
  go_loopw [15, 16] (fun v i wr => ∃ (k g cap : Nat), k ≤ p ∧ i = .int .i64 k ∧ v = .slice (some ⟨g, 0, none⟩) k cap ∧ wr.ownsRow w.heap.size 35 3 (.slice (some ⟨g, 0, none⟩) k cap) k (tcells (pairs ss hs 0 k)) ∧ Below w.heap.size w wr) (fun _ i _ => p - (intOf i).toNat)
  case atStart => exact ⟨0, g0, n + 1, by omega, rfl, rfl, by rw [pairs_zero, tcells_nil]; exact hown, hW3⟩
  case round =>
    clear hown hW3 hs2
    obtain ⟨k, g, cap, hk, rfl, rfl, hown, hbel⟩ := hrel
    have hgB : w.heap.size ≤ g ∧ g < wr.heap.size := hown.lt g rfl
    have hsz := hbel.size
    by_cases hlt : k < p
    · obtain ⟨s1, hs1⟩ : ∃ s1, ss.getD k 0 = s1 := ⟨_, rfl⟩
      obtain ⟨x1, hx1⟩ : ∃ x1, hs.getD k 0 = x1 := ⟨_, rfl⟩
      have HE : Hid (pairs ss hs 0 (k + 1) = pairs ss hs 0 k ++ [(s1, x1)]) := by
        have e := pairs_succ ss hs 0 k n hl1.out hl2.out (by omega)
        rw [Nat.zero_add, hs1, hx1] at e
        exact e
      have hc1 : wr.cell? ⟨b1, o1 + k, none⟩ = some (.int .u32 s1) := by rw [← hs1]; exact (h1.below hbel hb1).2.2 k (by omega)
      have hc2 : wr.cell? ⟨b2, o2 + k, none⟩ = some (.int .u64 x1) := by rw [← hx1]; exact (h2.below hbel hb2).2.2 k (by omega)
      clear hs1 hx1
      have q0 : (0 : Int) ≤ (k : Int) := by omega
      have q1 : (k : Int) < (n : Int) := by omega
      have h63 : k + 1 ≤ maxLen := by unfold maxLen; omega
      have hby : (k + 1) * 40 ≤ 140737488355328 := by omega
      have n1 : (Value.slice (some ⟨g, 0, none⟩) k cap).ownBlock ≠ some b1 := by simp [Value.ownBlock]; omega
      have n2 : (Value.slice (some ⟨g, 0, none⟩) k cap).ownBlock ≠ some b2 := by simp [Value.ownBlock]; omega
      go_wp2
      go_region_held3 (fun w' => w'.cell? ⟨b1, o1 + k, none⟩ = some (.int .u32 s1) ∧ w'.cell? ⟨b2, o2 + k, none⟩ = some (.int .u64 x1))
        (first
          | go_keep
          | (go_split_ands
             refine ⟨?_, ?_⟩
             · (rw [hgrow.cell_far _ (by simp; omega) (Ne.symm n1)]; assumption)
             · (rw [hgrow.cell_far _ (by simp; omega) (Ne.symm n2)]; assumption)))
        ((refine step_append_lies _ (by rfl) _ _ _ (by rfl) w.heap.size 35 i5 _ 3 40 Try.underlying32 I5.out.1 I5.out.2.1 I5.out.2.2.1 I5.out.2.2.2 rfl (by omega) (.slice (some ⟨g, 0, none⟩) k cap) k (tcells (pairs ss hs 0 k)) (by rfl) ((hown.alloc _).drew)
            ⟨wr.heap.size, 0, none⟩ 1 1 [.int .u32 s1, .int .u64 x1, .slice none 0 0] (by rfl) (by rfl) (World.news_of_block (cs := #[.int .u32 s1, .int .u64 x1, .slice none 0 0]) (t := 35) (fr := (0, 0)) (heap_alloc_new wr _)) (by simp [Value.oneCell'])
            (by omega) h63 hby (by simp; omega) (wr.heap.size + 1) (by simp) ?_; intro gg cap' w4 hown1 hgrow hat hlt2))
      have hown2 : w4.ownsRow w.heap.size 35 3 (.slice (some ⟨gg, 0, none⟩) (k + 1) cap') (k + 1) (tcells (pairs ss hs 0 (k + 1))) := by rw [HE.out, tcells_snoc]; exact hown1
      have hbel2 : Below w.heap.size w w4 := ((hbel.alloc hsz _).drew).grown hgrow (by simp; omega) (fun q e => by simp [Value.ownBlock] at e; omega)
      clear hown1 hgrow hat hlt2 hown hbel
      go_wp2
      go_roundw
      case rel => exact ⟨k + 1, gg, cap', by omega, by go_num, rfl, hown2, hbel2⟩
      case measure => simp [intOf]; omega
    · obtain rfl : p = k := by omega
      clear hlt hk
      have h63 : p + 1 ≤ maxLen := by unfold maxLen; omega
      have hby : (p + 1) * 40 ≤ 140737488355328 := by omega
      go_wp2_with (at_builtin; refine wpList_append_lies _ rfl _ _ _ rfl w.heap.size 35 i5 _ 3 40 Try.underlying32 I5.out.1 I5.out.2.1 I5.out.2.2.1 I5.out.2.2.2 rfl (by omega) (.slice (some ⟨g, 0, none⟩) p cap) p (tcells (pairs ss hs 0 p)) rfl (hown.alloc _) ⟨wr.heap.size, 0, none⟩ 1 1 [.int .u32 s, .int .u64 h, .slice none 0 0] rfl rfl (World.news_of_block (cs := #[.int .u32 s, .int .u64 h, .slice none 0 0]) (t := 35) (fr := (0, 0)) (heap_alloc_new wr _)) (by simp [Value.oneCell']) (by omega) h63 hby (by simp; omega) (wr.heap.size + 1) (by simp) ?_)
      intro gg cap' w4 hown1 hgrow hat hlt2
      have hown2 : w4.ownsRow w.heap.size 35 3 (.slice (some ⟨gg, 0, none⟩) (p + 1) cap') (p + 1) (tcells (gathered ss hs p 0 s h)) := by rw [gathered_zero, tcells_snoc]; exact hown1
      have hbel2 : Below w.heap.size w w4 := (hbel.alloc hsz _).grown hgrow (by simp; omega) (fun q e => by simp [Value.ownBlock] at e; omega)
      clear hown1 hgrow hat hlt2 hown hbel hgB hsz h63 hby
      go_wp2
      go_loopw [15, 17] (fun v i wr => ∃ (k g cap : Nat), p + k ≤ n ∧ i = .int .i64 (p + k : Nat) ∧ v = .slice (some ⟨g, 0, none⟩) (p + 1 + k) cap ∧ wr.ownsRow w.heap.size 35 3 (.slice (some ⟨g, 0, none⟩) (p + 1 + k) cap) (p + 1 + k) (tcells (gathered ss hs p k s h)) ∧ Below w.heap.size w wr) (fun _ i _ => n - (intOf i).toNat)
      case atStart => exact ⟨0, gg, cap', by omega, rfl, rfl, hown2, hbel2⟩
      case round =>
        clear hown2 hbel2
        obtain ⟨k, g, cap, hk, rfl, rfl, hown, hbel⟩ := hrel
        have hgB : w.heap.size ≤ g ∧ g < wr.heap.size := hown.lt g rfl
        have hsz := hbel.size
        obtain ⟨j, hj⟩ : ∃ j, p + k = j := ⟨_, rfl⟩
        obtain ⟨m, hm⟩ : ∃ m, p + 1 + k = m := ⟨_, rfl⟩
        have HM : Hid (p + 1 + k = m) := hm
        have HJ : Hid (p + k = j) := hj
        have hm1 : m = j + 1 := by omega
        have hml : m ≤ 65537 := by omega
        clear hm1
        by_cases hlt : p + k < n
        · obtain ⟨s1, hs1⟩ : ∃ s1, ss.getD (p + k) 0 = s1 := ⟨_, rfl⟩
          obtain ⟨x1, hx1⟩ : ∃ x1, hs.getD (p + k) 0 = x1 := ⟨_, rfl⟩
          have HE : Hid (gathered ss hs p (k + 1) s h = gathered ss hs p k s h ++ [(s1, x1)]) := by
            have e := gathered_succ ss hs p k n s h hl1.out hl2.out hlt
            rw [hs1, hx1] at e
            exact e
          have hc1 : wr.cell? ⟨b1, o1 + (p + k), none⟩ = some (.int .u32 s1) := by rw [← hs1]; exact (h1.below hbel hb1).2.2 (p + k) hlt
          have hc2 : wr.cell? ⟨b2, o2 + (p + k), none⟩ = some (.int .u64 x1) := by rw [← hx1]; exact (h2.below hbel hb2).2.2 (p + k) hlt
          rw [hm] at hown ⊢
          rw [hj] at hlt hc1 hc2 ⊢
          clear hs1 hx1 hj hm hk
          have q0 : (0 : Int) ≤ (j : Int) := by omega
          have q1 : (j : Int) < (n : Int) := by omega
          have h63 : m + 1 ≤ maxLen := by unfold maxLen; omega
          have hby : (m + 1) * 40 ≤ 140737488355328 := by omega
          have n1 : (Value.slice (some ⟨g, 0, none⟩) m cap).ownBlock ≠ some b1 := by simp [Value.ownBlock]; omega
          have n2 : (Value.slice (some ⟨g, 0, none⟩) m cap).ownBlock ≠ some b2 := by simp [Value.ownBlock]; omega
          go_wp2
          go_region_held3 (fun w' => w'.cell? ⟨b1, o1 + j, none⟩ = some (.int .u32 s1) ∧ w'.cell? ⟨b2, o2 + j, none⟩ = some (.int .u64 x1))
            (first
              | go_keep
              | (go_split_ands
                 refine ⟨?_, ?_⟩
                 · (rw [hgrow.cell_far _ (by simp; omega) (Ne.symm n1)]; assumption)
                 · (rw [hgrow.cell_far _ (by simp; omega) (Ne.symm n2)]; assumption)))
            ((refine step_append_lies _ (by rfl) _ _ _ (by rfl) w.heap.size 35 i5 _ 3 40 Try.underlying32 I5.out.1 I5.out.2.1 I5.out.2.2.1 I5.out.2.2.2 rfl (by omega) (.slice (some ⟨g, 0, none⟩) m cap) m (tcells (gathered ss hs p k s h)) (by rfl) ((hown.alloc _).drew)
                ⟨wr.heap.size, 0, none⟩ 1 1 [.int .u32 s1, .int .u64 x1, .slice none 0 0] (by rfl) (by rfl) (World.news_of_block (cs := #[.int .u32 s1, .int .u64 x1, .slice none 0 0]) (t := 35) (fr := (0, 0)) (heap_alloc_new wr _)) (by simp [Value.oneCell'])
                (by omega) h63 hby (by simp; omega) (wr.heap.size + 1) (by simp) ?_; intro gg cap' w4 hown1 hgrow hat hlt2))
          have hown2 : w4.ownsRow w.heap.size 35 3 (.slice (some ⟨gg, 0, none⟩) (m + 1) cap') (m + 1) (tcells (gathered ss hs p (k + 1) s h)) := by rw [HE.out, tcells_snoc]; exact hown1
          have hbel2 : Below w.heap.size w w4 := ((hbel.alloc hsz _).drew).grown hgrow (by simp; omega) (fun q e => by simp [Value.ownBlock] at e; omega)
          clear hown1 hgrow hat hlt2 hown hbel
          have HM2 : Hid (m + 1 = p + 1 + (k + 1)) := by have := HM.out; show m + 1 = p + 1 + (k + 1); omega
          go_wp2
          go_roundw
          case rel => exact ⟨k + 1, gg, cap', by have := HJ.out; omega, by have := HJ.out; congr 1; omega, by rw [← HM2.out], by rw [← HM2.out]; exact hown2, hbel2⟩
          case measure => simp [intOf]; omega
        · have e2 : k = n - p := by omega
          have hpl : (gathered ss hs p k s h).length = m := by rw [gathered_length ss hs p k n s h hl1.out hl2.out hk]; exact hm
          rw [hm] at hown ⊢
          rw [hj] at hlt ⊢
          have hjn : n ≤ j := by omega
          have hT : Ts wr g (gathered ss hs p k s h) := Ts.of_owns hown hpl
          have hTc : ∀ t : TypeId, Tc (wr.alloc (.cells #[.int .u64 r, .slice (some ⟨g, 0, none⟩) m cap] t)) wr.heap.size g m cap (gathered ss hs p k s h) := fun t => tc_boxed r hgB.2 hpl hT
          have hTop : top ((gathered ss hs p k s h).map (·.2)) = max W h := by rw [e2, gathered_top ss hs p n s h hl1.out hl2.out hh, HW.out]
          have HTop : Hid (top ((gathered ss hs p k s h).map (·.2)) = max W h) := hTop
          have HTc := show Hid _ from hTc
          clear hTop hTc hT hpl hm hj hk e2 hown
          go_wp2_with fail
          refine (high_tc (HTc.out 37) (by omega) (gathered_pos ss hs p k n s h hl1.out hl2.out (fun v hv => (hx.out v hv).1) hh)).mono ?_
          rintro e w6 ⟨rfl, hB6⟩
          rw [HTop.out]
          have hW6 : Below w.heap.size w w6 := (hbel.alloc hsz _).trans (hB6.mono (by simp; omega))
          clear hB6 hbel HTc HTop
          obtain ⟨M, hM⟩ : ∃ M, max W h = M := ⟨_, rfl⟩
          have HM3 : Hid (max W h = M) := hM
          rw [hM]
          clear hM
          go_wp2_with fail
          refine (max_any W h w6).mono ?_
          rintro e w' ⟨rfl, rfl⟩
          rw [HM3.out]
          have hMM : (M == M) = true := by simp
          go_wp2
          go_ret
          exact ⟨rfl, hW6⟩

set_option maxHeartbeats 2000000 in
set_option maxRecDepth 100000 in
/-- No timeout at all, the slices nil or not. -/
theorem insert_zero (r : Int) (a1 a2 : Option Addr) (c1 c2 : Nat) (s h : Int) (w : World) (hh : 0 ≤ h) :
    Calls Try.prog 4 #[.int .u64 r, .slice a1 0 c1, .slice a2 0 c2, .int .i64 0, .int .u32 s, .int .u64 h] w fun e w' => e = .returned (.bool true) ∧ Below w.heap.size w w' := by
  obtain ⟨i5, hi5, hz50, hz51, hz52⟩ := info_parts Try.info35
  have I5 : Hid (Try.prog.info? 35 = some i5 ∧ i5.zero = some (.agg #[.int .u32 0, .int .u64 0, .slice none 0 0]) ∧ i5.size = 3 ∧ i5.bytes = 40) := ⟨hi5, hz50, hz51, hz52⟩
  clear hi5 hz50 hz51 hz52
  go_enter Try.func4, Try.ntmps4
  go_wp2_with fail
  refine (bytes9 r _ _ _ _ _ _ 0 s h _ (by omega) (by omega)).mono ?_
  rintro e w' ⟨rfl, rfl⟩
  go_wp2_with fail
  refine (build_none r a1 a2 0 c1 0 c2 w).mono ?_
  rintro e w1 ⟨b, g, cap, rfl, hT1, hB1⟩
  go_wp2_with fail
  refine (high_tc hT1 (by omega) (by simp)).mono ?_
  rintro e w2 ⟨rfl, hB2⟩
  have hW2 : Below w.heap.size w w2 := hB1.trans (hB2.mono hB1.size)
  clear hB1 hB2 hT1
  rw [show top (([] : List (Int × Int)).map (·.2)) = 0 from rfl]
  have hs2 := hW2.size
  go_wp2_with (at_make; refine wpList_make_own w2 rfl _ _ 32 rfl w.heap.size 35 i5 _ 3 Try.underlying32 I5.out.1 I5.out.2.1 I5.out.2.2.1 .i64 .i64 _ 1 rfl rfl (by omega) ?c3 ?c4 hs2 ?_)
  case c3 => rw [I5.out.2.2.2]; omega
  case c4 => unfold maxLen; omega
  intro w3 hown hg3
  have hW3 : Below w.heap.size w w3 := hW2.grown hg3 hs2 (fun _ e => by cases e)
  have hgB : w2.heap.size < w3.heap.size := (hown.lt _ rfl).2
  clear hg3 hW2
  generalize w2.heap.size = g0 at hown hs2 hgB ⊢
  have hs3 := hW3.size
  go_wp2
  refine wp_loop_rounds 1 ?_
  rw [rounds_succ]
  go_wp2_with (at_builtin; refine wpList_append_lies _ rfl _ _ _ rfl w.heap.size 35 i5 _ 3 40 Try.underlying32 I5.out.1 I5.out.2.1 I5.out.2.2.1 I5.out.2.2.2 rfl (by omega) (.slice (some ⟨g0, 0, none⟩) 0 1) 0 [] rfl (hown.alloc _) ⟨w3.heap.size, 0, none⟩ 1 1 [.int .u32 s, .int .u64 h, .slice none 0 0] rfl rfl (World.news_of_block (cs := #[.int .u32 s, .int .u64 h, .slice none 0 0]) (t := 35) (fr := (0, 0)) (heap_alloc_new w3 _)) (by simp [Value.oneCell']) (by omega) (by unfold maxLen; omega) (by omega) (by simp; omega) (w3.heap.size + 1) (by simp) ?_)
  intro gg cap' w4 hown1 hgrow hat hlt2
  have hown2 : w4.ownsRow w.heap.size 35 3 (.slice (some ⟨gg, 0, none⟩) 1 cap') 1 (tcells [(s, h)]) := by simpa [tcells] using hown1
  have hbel2 : Below w.heap.size w w4 := (hW3.alloc hs3 _).grown hgrow (by simp; omega) (fun q e => by simp [Value.ownBlock] at e; omega)
  have hT : Ts w4 gg [(s, h)] := Ts.of_owns hown2 rfl
  have hTc : ∀ t : TypeId, Tc (w4.alloc (.cells #[.int .u64 r, .slice (some ⟨gg, 0, none⟩) 1 cap'] t)) w4.heap.size gg 1 cap' [(s, h)] := fun t => tc_boxed r hlt2 rfl hT
  have HTc := show Hid _ from hTc
  have hs4 := hbel2.size
  clear hown1 hgrow hat hown2 hT hTc hown hW3
  go_wp2
  refine wp_loop_rounds 1 ?_
  rw [rounds_succ]
  go_wp2_with fail
  refine (high_tc (HTc.out 37) (by omega) (by intro q hq; simp at hq; subst hq; exact hh)).mono ?_
  rintro e w6 ⟨rfl, hB6⟩
  have eT : top (([(s, h)] : List (Int × Int)).map (·.2)) = max 0 h := top_one h
  rw [eT]
  have hW6 : Below w.heap.size w w6 := (hbel2.alloc hs4 _).trans (hB6.mono (by simp; omega))
  clear hB6 hbel2 HTc eT
  obtain ⟨M, hM⟩ : ∃ M, max 0 h = M := ⟨_, rfl⟩
  have HM3 : Hid (max 0 h = M) := hM
  rw [hM]
  clear hM
  go_wp2_with fail
  refine (max_any 0 h w6).mono ?_
  rintro e w' ⟨rfl, rfl⟩
  rw [HM3.out]
  have hMM : (M == M) = true := by simp
  go_wp2
  go_ret
  exact ⟨rfl, hW6⟩
end Go.Proofs.Qxb6617740a
