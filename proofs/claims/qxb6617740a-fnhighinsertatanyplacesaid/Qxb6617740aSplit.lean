import Derived.Test.Qxb6617740aBuild
namespace Go.Proofs.Qxb6617740a
open Go.RowKit

theorem high_tc {b g n cap : Nat} {ps : List (Int × Int)} {w : World} (h : Tc w b g n cap ps) (hn : n ≤ 100000) (hnn : ∀ p ∈ ps, 0 ≤ p.2) :
    Calls Try.prog 7 #[.pointer (some ⟨b, 0, none⟩)] w fun e w' => e = .returned (.int .u64 (top (ps.map (·.2)))) ∧ Below w.heap.size w w' :=
  high_any b g n cap ps w h.1 h.2.1 h.2.2.1 hn h.2.2.2 hnn

theorem build_zero (r : Int) (b1 o1 c1 b2 o2 c2 n hi : Nat) (ss hs : List Int) (w : World) (h1 : Nums w .u32 b1 o1 n ss) (h2 : Nums w .u64 b2 o2 n hs) (hhi : hi ≤ n) (hn : n ≤ 65536) :
    Calls Try.prog 6 #[.int .u64 r, .slice (some ⟨b1, o1, none⟩) n c1, .slice (some ⟨b2, o2, none⟩) n c2, .int .i64 0, .int .i64 hi] w fun e w' =>
      ∃ b g cap, e = .returned (.pointer (some ⟨b, 0, none⟩)) ∧ Tc w' b g hi cap (pairs ss hs 0 hi) ∧ Below w.heap.size w w' :=
  build_any r b1 o1 c1 b2 o2 c2 n 0 hi ss hs w h1 h2 (Nat.zero_le _) hhi hn

theorem pairs_pos (ss hs : List Int) (lo k n : Nat) (h1 : ss.length = n) (h2 : hs.length = n) (hx : ∀ v ∈ hs, 0 ≤ v) : ∀ p ∈ pairs ss hs lo k, 0 ≤ p.2 := by
  intro p hp
  refine hx _ ?_
  have : p.2 ∈ (pairs ss hs lo k).map (·.2) := List.mem_map_of_mem hp
  rw [pairs_highs ss hs lo k n h1 h2] at this
  exact List.mem_of_mem_drop (List.mem_of_mem_take this)

theorem bytes5 (r : Int) (a1 : Option Addr) (n1 c1 : Nat) (a2 : Option Addr) (n2 c2 : Nat) (k : Int) (w : World) (h1 : n1 ≤ 65536) (h2 : n2 ≤ 65536) :
    Calls Try.prog 5 #[.int .u64 r, .slice a1 n1 c1, .slice a2 n2 c2, .int .i64 k] w fun e w' => e = .returned (.bool true) ∧ w = w' := by
  go_enter Try.func5, Try.ntmps5
  go_wp2
  go_ret
  exact ⟨rfl, rfl⟩
theorem bytes5_any (r : Int) (a1 : Option Addr) (n1 c1 : Nat) (a2 : Option Addr) (n2 c2 : Nat) (k : Int) (w : World) (h1 : n1 ≤ 9223372036854775807) (h2 : n2 ≤ 9223372036854775807) :
    Calls Try.prog 5 #[.int .u64 r, .slice a1 n1 c1, .slice a2 n2 c2, .int .i64 k] w fun e w' => ∃ t, e = .returned (.bool t) ∧ w = w' := by
  go_enter Try.func5, Try.ntmps5
  go_wp2
  all_goals (go_ret; exact ⟨_, rfl, rfl⟩)

/-- Where the law answers at once. -/
theorem split_early (r : Int) (a1 : Option Addr) (n1 c1 : Nat) (a2 : Option Addr) (n2 c2 : Nat) (k : Int) (w : World) (h1 : n1 ≤ 9223372036854775807) (h2 : n2 ≤ 9223372036854775807)
    (h : 65536 < n1 ∨ 65536 < n2 ∨ n1 ≠ n2 ∨ k < 0 ∨ (n2 : Int) < k) :
    Calls Try.prog 3 #[.int .u64 r, .slice a1 n1 c1, .slice a2 n2 c2, .int .i64 k] w fun e w' => e = .returned (.bool true) ∧ w = w' := by
  have H : Hid (65536 < n1 ∨ 65536 < n2 ∨ n1 ≠ n2 ∨ k < 0 ∨ (n2 : Int) < k) := h
  clear h
  by_cases g1 : 65536 < n1
  · go_enter Try.func3, Try.ntmps3
    go_wp2_with fail
    refine (bytes5_any r _ _ _ _ _ _ k _ h1 h2).mono ?_
    rintro e w' ⟨t, rfl, rfl⟩
    cases t <;> (go_wp2; go_ret; exact ⟨rfl, rfl⟩)
  · by_cases g2 : 65536 < n2
    · go_enter Try.func3, Try.ntmps3
      go_wp2_with fail
      refine (bytes5_any r _ _ _ _ _ _ k _ h1 h2).mono ?_
      rintro e w' ⟨t, rfl, rfl⟩
      cases t <;> (go_wp2; go_ret; exact ⟨rfl, rfl⟩)
    · by_cases g3 : n1 = n2
      · subst g3
        by_cases g4 : k < 0
        · go_enter Try.func3, Try.ntmps3
          go_wp2_with fail
          refine (bytes5_any r _ _ _ _ _ _ k _ h1 h2).mono ?_
          rintro e w' ⟨t, rfl, rfl⟩
          cases t <;> (go_wp2; go_ret; exact ⟨rfl, rfl⟩)
        · have g5 : (n1 : Int) < k := by have := H.out; omega
          go_enter Try.func3, Try.ntmps3
          go_wp2_with fail
          refine (bytes5_any r _ _ _ _ _ _ k _ h1 h2).mono ?_
          rintro e w' ⟨t, rfl, rfl⟩
          cases t <;> (go_wp2; go_ret; exact ⟨rfl, rfl⟩)
      · have g3' : ((n1 : Int) != (n2 : Int)) = true := by rw [bne_iff_ne]; omega
        go_enter Try.func3, Try.ntmps3
        go_wp2_with fail
        refine (bytes5_any r _ _ _ _ _ _ k _ h1 h2).mono ?_
        rintro e w' ⟨t, rfl, rfl⟩
        cases t <;> (go_wp2; go_ret; exact ⟨rfl, rfl⟩)

set_option maxHeartbeats 2000000 in
set_option maxRecDepth 100000 in
theorem split_some (r : Int) (b1 o1 c1 b2 o2 c2 n k : Nat) (ss hs : List Int) (w : World) (h1 : Nums w .u32 b1 o1 n ss) (h2 : Nums w .u64 b2 o2 n hs) (hk : k ≤ n) (hn0 : 0 < n) (hn : n ≤ 65536) (hx : Hid (∀ v ∈ hs, 0 ≤ v ∧ v ≤ 18446744073709551615)) :
    Calls Try.prog 3 #[.int .u64 r, .slice (some ⟨b1, o1, none⟩) n c1, .slice (some ⟨b2, o2, none⟩) n c2, .int .i64 k] w fun e w' => e = .returned (.bool true) ∧ Below w.heap.size w w' := by
  have hl1 : Hid (ss.length = n) := h1.1
  have hl2 : Hid (hs.length = n) := h2.1
  have hb1 : b1 < w.heap.size := h1.2.1
  have hb2 : b2 < w.heap.size := h2.2.1
  have n0 : ((n : Int) == 0) = false := beq_eq_false_iff_ne.2 (by omega)
  have nn : ((n : Int) != (n : Int)) = false := by simp
  go_enter Try.func3, Try.ntmps3
  go_wp2_with fail
  refine (bytes5 r _ _ _ _ _ _ k _ hn hn).mono ?_
  rintro e w' ⟨rfl, rfl⟩
  go_wp2_with fail
  refine (build_zero r b1 o1 c1 b2 o2 c2 n n ss hs w h1 h2 (Nat.le_refl _) hn).mono ?_
  rintro e w1 ⟨b, g, cap, rfl, hT1, hB1⟩
  go_wp2_with fail
  refine (high_tc hT1 (by omega) (pairs_pos ss hs 0 n n hl1.out hl2.out (fun v hv => (hx.out v hv).1))).mono ?_
  rintro e w2 ⟨rfl, hB2⟩
  have hW2 : Below w.heap.size w w2 := hB1.trans (hB2.mono hB1.size)
  clear hB1 hB2 hT1
  obtain ⟨W, hW⟩ : ∃ W, top ((pairs ss hs 0 n).map (·.2)) = W := ⟨_, rfl⟩
  rw [hW]
  have HW : Hid (top hs = W) := by
    show top hs = W
    rw [← hW, pairs_highs ss hs 0 n n hl1.out hl2.out, List.drop_zero, List.take_of_length_le (by rw [hl2.out]; exact Nat.le_refl _)]
  clear hW
  go_wp2_with fail
  refine (build_zero r b1 o1 c1 b2 o2 c2 n k ss hs w2 (h1.below hW2 hb1) (h2.below hW2 hb2) hk hn).mono ?_
  rintro e w3 ⟨b', g', cap', rfl, hT3, hB3⟩
  go_wp2_with fail
  refine (high_tc hT3 (by omega) (pairs_pos ss hs 0 k n hl1.out hl2.out (fun v hv => (hx.out v hv).1))).mono ?_
  rintro e w4 ⟨rfl, hB4⟩
  have hW4 : Below w.heap.size w w4 := hW2.trans ((hB3.trans (hB4.mono hB3.size)).mono hW2.size)
  clear hB3 hB4 hT3
  obtain ⟨L, hL⟩ : ∃ L, top ((pairs ss hs 0 k).map (·.2)) = L := ⟨_, rfl⟩
  rw [hL]
  have HL : Hid (top (hs.take k) = L) := by
    show top (hs.take k) = L
    rw [← hL, pairs_highs ss hs 0 k n hl1.out hl2.out, List.drop_zero]
  clear hL
  go_wp2_with fail
  refine (build_any r b1 o1 c1 b2 o2 c2 n k n ss hs w4 (h1.below hW4 hb1) (h2.below hW4 hb2) hk (Nat.le_refl _) hn).mono ?_
  rintro e w5 ⟨b'', g'', cap'', rfl, hT5, hB5⟩
  go_wp2_with fail
  refine (high_tc hT5 (by omega) (pairs_pos ss hs k (n - k) n hl1.out hl2.out (fun v hv => (hx.out v hv).1))).mono ?_
  rintro e w6 ⟨rfl, hB6⟩
  have hW6 : Below w.heap.size w w6 := hW4.trans ((hB5.trans (hB6.mono hB5.size)).mono hW4.size)
  clear hB5 hB6 hT5
  obtain ⟨R, hR⟩ : ∃ R, top ((pairs ss hs k (n - k)).map (·.2)) = R := ⟨_, rfl⟩
  rw [hR]
  have HR : Hid (top (hs.drop k) = R) := by
    show top (hs.drop k) = R
    rw [← hR, pairs_highs ss hs k (n - k) n hl1.out hl2.out, List.take_of_length_le (by rw [List.length_drop, hl2.out]; exact Nat.le_refl _)]
  clear hR
  have hN := h2.below hW6 hb2
  have hmx : (W == max L R) = true := by
    rw [beq_iff_eq, ← HW.out, ← HL.out, ← HR.out]; exact top_split hs k
  clear hW2 hW4 h1 h2
  go_wp2
  go_loop [13, 14] (fun f i => ∃ q : Nat, q ≤ n ∧ i = .int .i64 q ∧ f = .bool (seen hs W q)) (fun _ i => n - (intOf i).toNat)
  case atStart => exact ⟨0, by omega, rfl, rfl⟩
  case round =>
    obtain ⟨q, hq, rfl, rfl⟩ := hrel
    by_cases hlt : q < n
    · have hql : q < hs.length := by rw [hl2.out]; exact hlt
      have hcq := hN.2.2 q hlt
      have hle : hs.getD q 0 ≤ W := by rw [← HW.out]; exact le_top (by simp [hql])
      by_cases he : hs.getD q 0 = W
      · have HS : Hid (seen hs W (q + 1) = true) := seen_hit hs W q hql he
        rw [he] at hcq
        clear he hle hql
        have hnlt : ¬ (W < W) := by omega
        have heq : (W == W) = true := by simp
        go_wp2
        go_round
        case rel => exact ⟨q + 1, by omega, by go_num, by rw [HS.out]⟩
        case measure => simp [intOf]; omega
      · have HS : Hid (seen hs W (q + 1) = seen hs W q) := seen_miss hs W q hql he
        generalize hs.getD q 0 = h at hcq hle he
        have heq : (h == W) = false := beq_eq_false_iff_ne.2 he
        clear he hql
        go_wp2
        go_round
        case rel => exact ⟨q + 1, by omega, by go_num, by rw [HS.out]⟩
        case measure => simp [intOf]; omega
    · obtain rfl : n = q := by omega
      have hsn : seen hs W n = true := by
        have := seen_all hs (by rw [hl2.out]; exact hn0) (fun v hv => (hx.out v hv).1)
        rw [HW.out, hl2.out] at this
        exact this
      rw [hsn]
      clear hsn hN
      go_wp2_with (go_at_call 8; refine (max_any _ _ _).mono ?_; rintro e w' ⟨rfl, rfl⟩)
      go_ret
      exact ⟨by simp, hW6⟩

set_option maxHeartbeats 2000000 in
set_option maxRecDepth 100000 in
/-- No timeout at all, the slices nil or not. -/
theorem split_zero (r : Int) (a1 a2 : Option Addr) (c1 c2 : Nat) (w : World) :
    Calls Try.prog 3 #[.int .u64 r, .slice a1 0 c1, .slice a2 0 c2, .int .i64 0] w fun e w' => e = .returned (.bool true) ∧ Below w.heap.size w w' := by
  go_enter Try.func3, Try.ntmps3
  go_wp2_with fail
  refine (bytes5 r _ _ _ _ _ _ 0 _ (by omega) (by omega)).mono ?_
  rintro e w' ⟨rfl, rfl⟩
  go_wp2_with fail
  refine (build_none r a1 a2 0 c1 0 c2 w).mono ?_
  rintro e w1 ⟨b, g, cap, rfl, hT1, hB1⟩
  go_wp2_with fail
  refine (high_tc hT1 (by omega) (by simp)).mono ?_
  rintro e w2 ⟨rfl, hB2⟩
  have hW2 : Below w.heap.size w w2 := hB1.trans (hB2.mono hB1.size)
  clear hB1 hB2 hT1
  rw [show top (([] : List (Int × Int)).map (·.2)) = 0 from rfl]
  go_wp2_with fail
  refine (build_none r a1 a2 0 c1 0 c2 w2).mono ?_
  rintro e w3 ⟨b', g', cap', rfl, hT3, hB3⟩
  go_wp2_with fail
  refine (high_tc hT3 (by omega) (by simp)).mono ?_
  rintro e w4 ⟨rfl, hB4⟩
  have hW4 : Below w.heap.size w w4 := hW2.trans ((hB3.trans (hB4.mono hB3.size)).mono hW2.size)
  clear hB3 hB4 hT3
  rw [show top (([] : List (Int × Int)).map (·.2)) = 0 from rfl]
  go_wp2_with fail
  refine (build_none r a1 a2 0 c1 0 c2 w4).mono ?_
  rintro e w5 ⟨b'', g'', cap'', rfl, hT5, hB5⟩
  go_wp2_with fail
  refine (high_tc hT5 (by omega) (by simp)).mono ?_
  rintro e w6 ⟨rfl, hB6⟩
  have hW6 : Below w.heap.size w w6 := hW4.trans ((hB5.trans (hB6.mono hB5.size)).mono hW4.size)
  clear hB5 hB6 hT5 hW2 hW4
  rw [show top (([] : List (Int × Int)).map (·.2)) = 0 from rfl]
  go_wp2
  refine wp_loop_rounds 1 ?_
  rw [rounds_succ]
  go_wp2_with (go_at_call 8; refine (max_any _ _ _).mono ?_; rintro e w' ⟨rfl, rfl⟩)
  go_ret
  exact ⟨by simp, hW6⟩
end Go.Proofs.Qxb6617740a
