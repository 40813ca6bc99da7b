import Derived.Test.Qxb6617706aSort
import Derived.Test.Qxb6617706aCounted
import Derived.WalkSpells
import Derived.Lib.SliceRun
namespace Go.Proofs.Qxb6617706a
open Go.RowKit

theorem Try.info25 : (Try.prog.info? 25).map (fun i => (i.zero, i.size, i.bytes)) = some (some (.int .u32 0), 1, 4) := by kernel_rfl
theorem Try.info26 : (Try.prog.info? 26).map (fun i => (i.zero, i.size, i.bytes)) = some (some (.int .u32 0), 1, 4) := by kernel_rfl

theorem zz_nil (g n cap m : Nat) (xs : List Int) (w : World) (hR : Row w g .u32 26 xs) (hl : Hid (xs.length = n)) (hn : n ≤ 4096) (hm : Hid (top xs = (m : Int))) (hm2 : m ≤ 4294967295)
    (hcase : Hid (n = 0 ∨ 4 * n ≤ m)) :
    Calls Try.prog 6 #[.slice (some ⟨g, 0, none⟩) n cap] w fun e w' => e = .returned (.slice none 0 0) ∧ w = w' := by
  go_enter Try.func6, Try.ntmps6
  go_wp2_with fail
  refine (counted_nil g n cap m xs w hR hl hn hm hm2 hcase.out).mono ?_
  rintro e w' ⟨rfl, rfl⟩
  go_wp2
  go_ret
  exact ⟨rfl, rfl⟩

theorem zz_some (g n cap m : Nat) (xs : List Int) (w : World) (hR : Row w g .u32 26 xs) (hl : Hid (xs.length = n)) (hn : n ≤ 4096) (hx : Hid (∀ v ∈ xs, 0 ≤ v ∧ v ≤ 4294967295)) (hm : Hid (top xs = (m : Int)))
    (hn0 : 0 < n) (hm4 : m < 4 * n) :
    Calls Try.prog 6 #[.slice (some ⟨g, 0, none⟩) n cap] w fun e w' => e = .returned (.slice (some ⟨w.heap.size, 0, none⟩) (m + 2) (m + 2)) ∧
      ∃ ls : List Int, ls.length = m + 2 ∧ (∀ k, k < m + 2 → ls.getD k 0 = (cLt xs (k : Int) : Nat)) ∧ Row w' w.heap.size .i32 21 ls ∧ w.grownBy w' none := by
  go_enter Try.func6, Try.ntmps6
  go_wp2_with fail
  refine (counted_some g n cap m xs w hR hl hn hx hm hn0 hm4).mono ?_
  rintro e w' ⟨rfl, hq⟩
  have HQ := show Hid _ from hq
  clear hq
  go_wp2
  go_ret
  exact ⟨rfl, HQ.out⟩

theorem bytes_yes (a : Option Addr) (n cap : Nat) (w : World) (hn : n ≤ 1048576) :
    Calls Try.prog 4 #[.slice a n cap] w fun e w' => e = .returned (.bool true) ∧ w = w' := by
  go_enter Try.func4, Try.ntmps4
  go_wp2
  go_ret
  exact ⟨rfl, rfl⟩
theorem bytes_no (a : Option Addr) (n cap : Nat) (w : World) (hn : 1048576 < n) :
    Calls Try.prog 4 #[.slice a n cap] w fun e w' => e = .returned (.bool false) ∧ w = w' := by
  go_enter Try.func4, Try.ntmps4
  go_wp2
  go_ret
  exact ⟨rfl, rfl⟩

/-- More than 4096 values: true at once. -/
theorem law_long (a : Option Addr) (n cap : Nat) (w : World) (hn : 4096 < n) (hm : n ≤ maxLen) :
    Calls Try.prog 3 #[.slice a n cap] w fun e w' => e = .returned (.bool true) ∧ w = w' := by
  unfold maxLen at hm
  by_cases h : n ≤ 1048576
  · go_enter Try.func3, Try.ntmps3
    go_wp2_with fail
    refine (bytes_yes a n cap w h).mono ?_
    rintro e w' ⟨rfl, rfl⟩
    go_wp2
    go_ret
    exact ⟨rfl, rfl⟩
  · go_enter Try.func3, Try.ntmps3
    go_wp2_with fail
    refine (bytes_no a n cap w (by omega)).mono ?_
    rintro e w' ⟨rfl, rfl⟩
    go_wp2
    go_ret
    exact ⟨rfl, rfl⟩

set_option maxHeartbeats 1000000 in
set_option maxRecDepth 100000 in
theorem law_some (b off n cap : Nat) (xs : List Int) (w : World) (hn0 : 0 < n) (hn : n ≤ 4096) (hl : Hid (xs.length = n)) (hx : Hid (∀ v ∈ xs, 0 ≤ v ∧ v ≤ 4294967295))
    (hcell : Hid (∀ j, j < n → w.cell? ⟨b, off + j, none⟩ = some (.int .u32 (xs.getD j 0)))) :
    Calls Try.prog 3 #[.slice (some ⟨b, off, none⟩) n cap] w fun e w' => e = .returned (.bool true) ∧ Below w.heap.size w w' := by
  obtain ⟨i5, hi5, hz50, hz51, hz52⟩ := info_parts Try.info25
  obtain ⟨i6, hi6, hz60, hz61, hz62⟩ := info_parts Try.info26
  have I5 : Hid (Try.prog.info? 25 = some i5 ∧ i5.zero = some (.int .u32 0) ∧ i5.size = 1 ∧ i5.bytes = 4) := ⟨hi5, hz50, hz51, hz52⟩
  have I6 : Hid (Try.prog.info? 26 = some i6 ∧ i6.zero = some (.int .u32 0) ∧ i6.size = 1 ∧ i6.bytes = 4) := ⟨hi6, hz60, hz61, hz62⟩
  clear hi5 hz50 hz51 hz52 hi6 hz60 hz61 hz62
  have h0' : ((n : Int) == 0) = false := beq_eq_false_iff_ne.2 (by omega)
  have hsz : b < w.heap.size := by have := block_lt_of_cell (hcell.out 0 hn0); exact this
  go_enter Try.func3, Try.ntmps3
  go_wp2_with fail
  refine (bytes_yes _ n cap w (by omega)).mono ?_
  rintro e w' ⟨rfl, rfl⟩
  go_wp2_with (at_make; refine wpList_make_full w rfl _ _ 24 rfl w.heap.size 26 i6 (.int .u32 0) 1 Try.underlying24 I6.out.1 I6.out.2.1 I6.out.2.2.1 .i64 .i64 _ _ n rfl rfl rfl rfl ?c3 ?c4 (Nat.le_refl _) ?_)
  case c3 => rw [I6.out.2.2.2]; omega
  case c4 => unfold maxLen; omega
  · intro w1 hown hg1
    have hR1 := row_of_owns hown
    clear hown
    go_wp2
    go_loopw [5] (fun vi wr => ∃ k : Nat, k ≤ n ∧ vi = .int .i64 k ∧ Row wr w.heap.size .u32 26 (copied xs k) ∧ w.grownBy wr none) (fun vi _ => n - (intOf vi).toNat)
    case atStart => exact ⟨0, by omega, rfl, by rw [copied_zero, hl.out]; exact hR1, hg1⟩
    case round =>
      clear hR1 hg1
      obtain ⟨k, hk, rfl, hRk, hgk⟩ := hrel
      by_cases hlt : k < n
      · have hkl : k < xs.length := by rw [hl.out]; exact hlt
        have hcl := copied_length xs k (by omega)
        obtain ⟨x, hx1⟩ : ∃ x, xs.getD k 0 = x := ⟨_, rfl⟩
        have hc : wr.cell? ⟨b, off + k, none⟩ = some (.int .u32 x) := by rw [← hx1, ← hcell.out k hlt]; exact (grown_below hgk).cell hsz
        obtain ⟨y, hy⟩ : ∃ y, (copied xs k).getD k 0 = y := ⟨_, rfl⟩
        have hc2 : wr.cell? ⟨w.heap.size, k, none⟩ = some (.int .u32 y) := by rw [← hy]; exact hRk.cell k (by omega)
        have hf := hRk.free k
        have hR3 := hRk.stored k x
        have HX : Hid (xs.getD k 0 = x) := hx1
        have HE : Hid ((copied xs k).set k x = copied xs (k + 1)) := by rw [← hx1]; exact copied_set xs k hkl
        have hg3 := grown_setCell_new hgk (Nat.le_refl _) k (.int .u32 x)
        clear hx1 hy hcl hkl
        go_wp2
        go_roundw
        case rel => exact ⟨k + 1, by omega, by go_num, by rw [← HE.out]; exact hR3, hg3⟩
        case measure => simp [intOf]; omega
      · obtain rfl : n = k := by omega
        have hRx : Row wr w.heap.size .u32 26 xs := by rw [← copied_all xs, hl.out]; exact hRk
        clear hRk
        have hgs : w.heap.size < wr.heap.size := hRx.lt
        clear hlt hk
        go_wp2_with (at_make; refine wpList_make_full wr rfl _ _ 22 rfl wr.heap.size 25 i5 (.int .u32 0) 1 Try.underlying22 I5.out.1 I5.out.2.1 I5.out.2.2.1 .i64 .i64 _ _ n rfl rfl rfl rfl ?d3 ?d4 (Nat.le_refl _) ?_)
        case d3 => rw [I5.out.2.2.2]; omega
        case d4 => unfold maxLen; omega
        · intro w2 hown hg2
          have hR2 := row_of_owns hown
          have hRx2 := hRx.kept hg2 (by simp)
          have hgw2 : w.grownBy w2 none := grown_trans hgk hg2
          clear hown hg2 hRx hgk
          generalize wr.heap.size = g2 at hR2 hgs ⊢
          go_wp2
          go_loopw [7] (fun vi wr => ∃ k : Nat, k ≤ n ∧ vi = .int .i64 k ∧ Row wr g2 .u32 25 (copied xs k) ∧ Row wr w.heap.size .u32 26 xs ∧ w.grownBy wr none) (fun vi _ => n - (intOf vi).toNat)
          case atStart => exact ⟨0, by omega, rfl, by rw [copied_zero, hl.out]; exact hR2, hRx2, hgw2⟩
          case round =>
            clear hR2 hRx2 hgw2
            obtain ⟨k, hk, rfl, hRk, hRxk, hgk⟩ := hrel
            by_cases hlt : k < n
            · have hkl : k < xs.length := by rw [hl.out]; exact hlt
              have hcl := copied_length xs k (by omega)
              obtain ⟨x, hx1⟩ : ∃ x, xs.getD k 0 = x := ⟨_, rfl⟩
              have hc : wr.cell? ⟨b, off + k, none⟩ = some (.int .u32 x) := by rw [← hx1, ← hcell.out k hlt]; exact (grown_below hgk).cell hsz
              obtain ⟨y, hy⟩ : ∃ y, (copied xs k).getD k 0 = y := ⟨_, rfl⟩
              have hc2 : wr.cell? ⟨g2, k, none⟩ = some (.int .u32 y) := by rw [← hy]; exact hRk.cell k (by omega)
              have hf := hRk.free k
              have hR3 := hRk.stored k x
              have hRx3 := hRxk.other (show w.heap.size ≠ g2 by omega) k (.int .u32 x)
              have HE : Hid ((copied xs k).set k x = copied xs (k + 1)) := by rw [← hx1]; exact copied_set xs k hkl
              have hg3 := grown_setCell_new hgk (show w.heap.size ≤ g2 by omega) k (.int .u32 x)
              clear hx1 hy hcl hkl
              go_wp2
              go_roundw
              case rel => exact ⟨k + 1, by omega, by go_num, by rw [← HE.out]; exact hR3, hRx3, hg3⟩
              case measure => simp [intOf]; omega
            · obtain rfl : n = k := by omega
              have hRs : Row wr g2 .u32 25 xs := by
                have e := copied_all xs
                rw [hl.out] at e
                rw [← e]; exact hRk
              clear hRk hlt hk
              go_wp2_with fail
              refine (sort_any g2 n n xs wr hRs hl hn).mono ?_
              rintro e w3 ⟨rfl, ys, hp, hyl, hsrt, hRy, hg3⟩
              have hRx3 : Row w3 w.heap.size .u32 26 xs := hRxk.kept hg3 (by simp; omega)
              have hgw3 : w.grownBy w3 none := grown_into hgk hg3 (by omega)
              have HP : Hid (ys.Perm xs) := hp
              have HYL : Hid (ys.length = n) := hyl
              have HS : Hid (SortedTo ys n) := hsrt
              clear hp hyl hsrt hg3 hgk hRxk hRs
              obtain ⟨m, hm⟩ : ∃ m : Nat, top xs = (m : Int) := ⟨(top xs).toNat, by have := top_nonneg xs; omega⟩
              have HM : Hid (top xs = (m : Int)) := hm
              have hm32 : m ≤ 4294967295 := by have := top_le xs 4294967295 (by omega) (fun v hv => (hx.out v hv).2); omega
              have HL : Hid (ys.getD (n - 1) 0 = (m : Int)) := by
                show ys.getD (n - 1) 0 = (m : Int)
                rw [← hm, ← last_top HP.out (by rw [HYL.out]; exact HS.out) (by rw [HYL.out]; exact hn0) (fun v hv => (hx.out v hv).1), HYL.out]
              clear hm
              go_wp2_with fail
              by_cases h4 : 4 * n ≤ m
              · refine (zz_nil w.heap.size n n m xs w3 hRx3 hl hn HM hm32 (.inr h4)).mono ?_
                rintro e w4 ⟨rfl, rfl⟩
                have hcl : w3.cell? ⟨g2, n - 1, none⟩ = some (.int .u32 (m : Int)) := by rw [← HL.out]; exact hRy.cell (n - 1) (by rw [HYL.out]; omega)
                have heq := Lib.run_eql_slice_nil (P := Try.prog) w3 28 21 none 0 0 0 0 Try.underlying28
                go_wp2
                go_ret
                exact ⟨rfl, grown_below hgw3⟩
              · refine (zz_some w.heap.size n n m xs w3 hRx3 hl hn hx HM hn0 (by omega)).mono ?_
                rintro e w4 ⟨rfl, ls, hll, hlp, hRl, hg4⟩
                have hRy4 := hRy.kept hg4 (by simp)
                have hgw4 := grown_trans hgw3 hg4
                have HLL : Hid (ls.length = m + 2) := hll
                have HLP : Hid (∀ k, k < m + 2 → ls.getD k 0 = (cLt xs (k : Int) : Nat)) := hlp
                clear hll hlp hg4 hRy hgw3
                generalize w3.heap.size = G at hRl ⊢
                have hcl : w4.cell? ⟨g2, n - 1, none⟩ = some (.int .u32 (m : Int)) := by rw [← HL.out]; exact hRy4.cell (n - 1) (by rw [HYL.out]; omega)
                have heq := Lib.run_eql_slice_nil (P := Try.prog) w4 28 21 (some ⟨G, 0, none⟩) (m + 2) (m + 2) 0 0 Try.underlying28
                go_wp2
                go_loop [10, 11] (fun vi vk => ∃ i k : Nat, i ≤ n ∧ k ≤ m + 2 ∧ vi = .int .i64 i ∧ vk = .int .u64 k ∧ Hid (∀ j, j < i → ys.getD j 0 < (k : Int))) (fun _ vk => m + 2 - (intOf vk).toNat)
                case atStart => exact ⟨0, 0, by omega, by omega, rfl, rfl, fun j hj => by omega⟩
                case round =>
                  clear hcl heq
                  obtain ⟨i, k, hin, hkm, rfl, rfl, HJ⟩ := hrel
                  by_cases hlk : k < m + 2
                  · go_wp2
                    go_loop [10] (fun vi => ∃ i : Nat, i ≤ n ∧ vi = .int .i64 i ∧ Hid (∀ j, j < i → ys.getD j 0 < (k : Int))) (fun vi => n - (intOf vi).toNat)
                    case atStart => exact ⟨i, hin, rfl, HJ⟩
                    case round =>
                      clear HJ hin
                      obtain ⟨i, hin, rfl, HJ⟩ := hrel
                      have out : (i < n → (k : Int) ≤ ys.getD i 0) → w4.cell? ⟨G, k, none⟩ = some (.int .i32 (i : Int)) := by
                        intro hy
                        have e1 : cLt ys (k : Int) = i := place ys i k (by rw [HYL.out]; exact HS.out) (by rw [HYL.out]; exact hin) HJ.out (by rw [HYL.out]; exact hy)
                        rw [hRl.cell k (by rw [HLL.out]; exact hlk), HLP.out k hlk, ← cLt_perm HP.out, e1]
                      have OUT : Hid ((i < n → (k : Int) ≤ ys.getD i 0) → w4.cell? ⟨G, k, none⟩ = some (.int .i32 (i : Int))) := out
                      clear out
                      by_cases hlt : i < n
                      · obtain ⟨y, hy⟩ : ∃ y, ys.getD i 0 = y := ⟨_, rfl⟩
                        have hcy : w4.cell? ⟨g2, i, none⟩ = some (.int .u32 y) := by rw [← hy]; exact hRy4.cell i (by rw [HYL.out]; exact hlt)
                        have hyb : 0 ≤ y ∧ y ≤ 4294967295 := by
                          rw [← hy]
                          exact getD_all ys (fun v hv => hx.out v (HP.out.mem_iff.1 hv)) i (by rw [HYL.out]; exact hlt)
                        by_cases hyk : y < (k : Int)
                        · have HJ2 : Hid (∀ j, j < i + 1 → ys.getD j 0 < (k : Int)) := by
                            intro j hj
                            by_cases e : j = i
                            · rw [e, hy]; exact hyk
                            · exact HJ.out j (by omega)
                          clear hy
                          go_wp2
                          go_round
                          case rel => exact ⟨i + 1, by omega, by go_num, HJ2⟩
                          case measure => simp [intOf]; omega
                        · have hcG := OUT.out (fun _ => by rw [hy]; omega)
                          have HJ2 : Hid (∀ j, j < i → ys.getD j 0 < ((k + 1 : Nat) : Int)) := by
                            intro j hj
                            have := HJ.out j hj
                            omega
                          clear hy
                          go_wp2
                          go_round
                          case rel => exact ⟨i, k + 1, by omega, by omega, rfl, by go_num, HJ2⟩
                          case measure => simp [intOf]; omega
                      · have hcG := OUT.out (fun h => by omega)
                        have HJ2 : Hid (∀ j, j < i → ys.getD j 0 < ((k + 1 : Nat) : Int)) := by
                          intro j hj
                          have := HJ.out j hj
                          omega
                        go_wp2
                        go_round
                        case rel => exact ⟨i, k + 1, by omega, by omega, rfl, by go_num, HJ2⟩
                        case measure => simp [intOf]; omega
                  · go_wp2
                    go_ret
                    exact ⟨rfl, grown_below hgw4⟩

set_option maxHeartbeats 1000000 in
set_option maxRecDepth 100000 in
/-- No value at all, the slice nil or not. -/
theorem law_zero (a : Option Addr) (cap : Nat) (w : World) :
    Calls Try.prog 3 #[.slice a 0 cap] w fun e w' => e = .returned (.bool true) ∧ Below w.heap.size w w' := by
  obtain ⟨i5, hi5, hz50, hz51, hz52⟩ := info_parts Try.info25
  obtain ⟨i6, hi6, hz60, hz61, hz62⟩ := info_parts Try.info26
  have I5 : Hid (Try.prog.info? 25 = some i5 ∧ i5.zero = some (.int .u32 0) ∧ i5.size = 1 ∧ i5.bytes = 4) := ⟨hi5, hz50, hz51, hz52⟩
  have I6 : Hid (Try.prog.info? 26 = some i6 ∧ i6.zero = some (.int .u32 0) ∧ i6.size = 1 ∧ i6.bytes = 4) := ⟨hi6, hz60, hz61, hz62⟩
  clear hi5 hz50 hz51 hz52 hi6 hz60 hz61 hz62
  go_enter Try.func3, Try.ntmps3
  go_wp2_with fail
  refine (bytes_yes _ 0 cap w (by omega)).mono ?_
  rintro e w' ⟨rfl, rfl⟩
  go_wp2_with (at_make; refine wpList_make_full w rfl _ _ 24 rfl w.heap.size 26 i6 (.int .u32 0) 1 Try.underlying24 I6.out.1 I6.out.2.1 I6.out.2.2.1 .i64 .i64 _ _ 0 rfl rfl rfl rfl (Nat.zero_le _) (Nat.zero_le _) (Nat.le_refl _) ?_)
  intro w1 hown hg1
  have hR1 := row_of_owns hown
  clear hown
  go_wp2
  refine wp_loop_rounds 1 ?_
  rw [rounds_succ]
  have hgs : w.heap.size < w1.heap.size := hR1.lt
  go_wp2_with (at_make; refine wpList_make_full w1 rfl _ _ 22 rfl w1.heap.size 25 i5 (.int .u32 0) 1 Try.underlying22 I5.out.1 I5.out.2.1 I5.out.2.2.1 .i64 .i64 _ _ 0 rfl rfl rfl rfl (Nat.zero_le _) (Nat.zero_le _) (Nat.le_refl _) ?_)
  intro w2 hown hg2
  have hR2 := row_of_owns hown
  have hRx2 := hR1.kept hg2 (by simp)
  have hgw2 : w.grownBy w2 none := grown_trans hg1 hg2
  clear hown hg2 hR1 hg1
  generalize w1.heap.size = g2 at hR2 hgs ⊢
  go_wp2
  refine wp_loop_rounds 1 ?_
  rw [rounds_succ]
  go_wp2_with fail
  refine (sort_any g2 0 0 [] w2 hR2 rfl (by omega)).mono ?_
  rintro e w3 ⟨rfl, ys, hp, hyl, hsrt, hRy, hg3⟩
  have hRx3 : Row w3 w.heap.size .u32 26 [] := hRx2.kept hg3 (by simp; omega)
  have hgw3 : w.grownBy w3 none := grown_into hgw2 hg3 (by omega)
  clear hp hyl hsrt hg3 hRy hRx2 hgw2 hR2
  go_wp2_with fail
  refine (zz_nil w.heap.size 0 0 0 [] w3 hRx3 rfl (by omega) rfl (by omega) (.inl rfl)).mono ?_
  rintro e w4 ⟨rfl, rfl⟩
  have heq := Lib.run_eql_slice_nil (P := Try.prog) w3 28 21 none 0 0 0 0 Try.underlying28
  go_wp2
  go_ret
  exact ⟨rfl, grown_below hgw3⟩
end Go.Proofs.Qxb6617706a
