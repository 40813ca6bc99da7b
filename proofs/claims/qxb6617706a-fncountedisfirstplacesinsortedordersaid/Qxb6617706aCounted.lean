import Derived.Test.Qxb6617706aRows
import Derived.Test.Qxb6617706aLaws
import Derived.RegionTactic
import Derived.BigRegion
namespace Go.Proofs.Qxb6617706a
open Go.RowKit

theorem Try.info21 : (Try.prog.info? 21).map (fun i => (i.zero, i.size, i.bytes)) = some (some (.int .i32 0), 1, 4) := by kernel_rfl

theorem max_if (t x : Int) : (if t < x then x else t) = max t x := by split <;> omega

set_option maxHeartbeats 1000000 in
set_option maxRecDepth 100000 in
/-- counted where it answers nil. -/
theorem counted_nil (g n cap m : Nat) (xs : List Int) (w : World) (hR : Row w g .u32 26 xs) (hl : Hid (xs.length = n)) (hn : n ≤ 4096) (hm : Hid (top xs = (m : Int))) (hm2 : m ≤ 4294967295)
    (hcase : n = 0 ∨ 4 * n ≤ m) :
    Calls Try.prog 7 #[.slice (some ⟨g, 0, none⟩) n cap] w fun e w' => e = .returned (.slice none 0 0) ∧ w = w' := by
  have HC : Hid (n = 0 ∨ 4 * n ≤ m) := hcase
  clear hcase
  go_enter Try.func7, Try.ntmps7
  go_wp2
  go_loop [3, 12] (fun t i => ∃ k : Nat, k ≤ n ∧ i = .int .i64 k ∧ t = .int .u32 (top (xs.take k))) (fun _ i => n - (intOf i).toNat)
  case atStart => exact ⟨0, by omega, rfl, rfl⟩
  case round =>
    obtain ⟨k, hk, rfl, rfl⟩ := hrel
    by_cases hlt : k < n
    · obtain ⟨x, hx1⟩ : ∃ x, xs.getD k 0 = x := ⟨_, rfl⟩
      have hc : w.cell? ⟨g, k, none⟩ = some (.int .u32 x) := by rw [← hx1]; exact hR.cell k (by rw [hl.out]; exact hlt)
      have HT : Hid (top (xs.take (k + 1)) = max (top (xs.take k)) x) := by rw [← hx1]; exact top_take xs k (by rw [hl.out]; exact hlt)
      clear hx1
      generalize top (xs.take k) = t at HT ⊢
      go_wp2
      go_round
      case rel => exact ⟨k + 1, by omega, by go_num, by rw [HT.out, max_if]⟩
      case measure => simp [intOf]; omega
    · obtain rfl : k = n := by omega
      rw [List.take_of_length_le (by rw [hl.out]; exact Nat.le_refl _), hm.out]
      rcases HC.out with h0 | h4
      · subst h0
        go_wp2
        go_ret
        exact ⟨rfl, rfl⟩
      · by_cases h0 : k = 0
        · subst h0
          go_wp2
          go_ret
          exact ⟨rfl, rfl⟩
        · have h0' : ((k : Int) == 0) = false := beq_eq_false_iff_ne.2 (by omega)
          go_wp2
          go_ret
          exact ⟨rfl, rfl⟩

set_option maxHeartbeats 1000000 in
set_option maxRecDepth 100000 in
/-- counted where it answers the first places. -/
theorem counted_some (g n cap m : Nat) (xs : List Int) (w : World) (hR : Row w g .u32 26 xs) (hl : Hid (xs.length = n)) (hn : n ≤ 4096) (hx : Hid (∀ v ∈ xs, 0 ≤ v ∧ v ≤ 4294967295)) (hm : Hid (top xs = (m : Int)))
    (hn0 : 0 < n) (hm4 : m < 4 * n) :
    Calls Try.prog 7 #[.slice (some ⟨g, 0, none⟩) n cap] w fun e w' => e = .returned (.slice (some ⟨w.heap.size, 0, none⟩) (m + 2) (m + 2)) ∧
      ∃ ls : List Int, ls.length = m + 2 ∧ (∀ k, k < m + 2 → ls.getD k 0 = (cLt xs (k : Int) : Nat)) ∧ Row w' w.heap.size .i32 21 ls ∧ w.grownBy w' none := by
  obtain ⟨i0, hi, hz0, hz1, hz2⟩ := info_parts Try.info21
  have HI : Hid (Try.prog.info? 21 = some i0) := hi
  have HZ0 : Hid (i0.zero = some (.int .i32 0)) := hz0
  have HZ1 : Hid (i0.size = 1) := hz1
  have HZ2 : Hid (i0.bytes = 4) := hz2
  clear hi hz0 hz1 hz2
  have h0' : ((n : Int) == 0) = false := beq_eq_false_iff_ne.2 (by omega)
  go_enter Try.func7, Try.ntmps7
  go_wp2
  go_loop [3, 12] (fun t i => ∃ k : Nat, k ≤ n ∧ i = .int .i64 k ∧ t = .int .u32 (top (xs.take k))) (fun _ i => n - (intOf i).toNat)
  case atStart => exact ⟨0, by omega, rfl, rfl⟩
  case round =>
    obtain ⟨k, hk, rfl, rfl⟩ := hrel
    by_cases hlt : k < n
    · obtain ⟨x, hx1⟩ : ∃ x, xs.getD k 0 = x := ⟨_, rfl⟩
      have hc : w.cell? ⟨g, k, none⟩ = some (.int .u32 x) := by rw [← hx1]; exact hR.cell k (by rw [hl.out]; exact hlt)
      have HT : Hid (top (xs.take (k + 1)) = max (top (xs.take k)) x) := by rw [← hx1]; exact top_take xs k (by rw [hl.out]; exact hlt)
      clear hx1
      generalize top (xs.take k) = t at HT ⊢
      go_wp2
      go_round
      case rel => exact ⟨k + 1, by omega, by go_num, by rw [HT.out, max_if]⟩
      case measure => simp [intOf]; omega
    · obtain rfl : n = k := by omega
      rw [List.take_of_length_le (by rw [hl.out]; exact Nat.le_refl _), hm.out]
      go_wp2_with (at_make; refine wpList_make_full w rfl _ _ 28 rfl w.heap.size 21 i0 (.int .i32 0) 1 Try.underlying28 HI.out HZ0.out HZ1.out .i64 .i64 _ _ (m + 2) rfl rfl (by omega) (by omega) ?c3 ?c4 (Nat.le_refl _) ?_)
      case c3 => rw [HZ2.out]; omega
      case c4 => unfold maxLen; omega
      · intro w1 hown hg1
        have hRG := row_of_owns hown
        clear hown
        have hG : w.heap.size < w1.heap.size := hRG.lt
        go_wp2
        go_loopw [37] (fun vi wr => ∃ (k : Nat) (ls : List Int), k ≤ n ∧ vi = .int .i64 k ∧ Row wr w.heap.size .i32 21 ls ∧ Cnt xs ls m k ∧ w.grownBy wr none) (fun vi _ => n - (intOf vi).toNat)
        case atStart => exact ⟨0, _, by omega, rfl, hRG, cnt_zero xs m, hg1⟩
        case round =>
          clear hRG hg1 hG
          obtain ⟨k, ls, hk, rfl, hRk, hCk, hgk⟩ := hrel
          have hRx : Row wr g .u32 26 xs := hR.kept hgk (by simp)
          by_cases hlt : k < n
          · have hkl : k < xs.length := by rw [hl.out]; exact hlt
            obtain ⟨v, hv⟩ : ∃ v : Nat, xs.getD k 0 = (v : Int) := ⟨(xs.getD k 0).toNat, by have := (getD_all xs hx.out k hkl).1; omega⟩
            have hvm : v ≤ m := by have := getD_le_top xs k hkl; rw [hv, hm.out] at this; omega
            have hc : wr.cell? ⟨g, k, none⟩ = some (.int .u32 (v : Int)) := by rw [← hv]; exact hRx.cell k hkl
            have hb := cnt_bd hCk (j := v + 1) (by omega)
            have hC2 := cnt_step hCk hkl hv hvm
            have hc2 := hRk.cell (v + 1) (by rw [hCk.len]; omega)
            have hb2 : ls.getD (v + 1) 0 ≤ 4096 := by have := hb.2; rw [hl.out] at this; omega
            have hb1 := hb.1
            have hf := hRk.free (v + 1)
            generalize ls.getD (v + 1) 0 = s at hc2 hb1 hb2 hC2
            have hR3 := hRk.stored (v + 1) (s + 1)
            have hg3 := grown_setCell_new hgk (Nat.le_refl _) (v + 1) (.int .i32 (s + 1))
            clear hb hv hkl hCk
            go_wp2
            go_roundw
            case rel => exact ⟨k + 1, _, by omega, by go_num, hR3, hC2, hg3⟩
            case measure => simp [intOf]; omega
          · obtain rfl : n = k := by omega
            have hP : Pre xs ls m 1 := pre_start (by rw [hl.out]; exact hCk) (fun v hv => (hx.out v hv).1)
            clear hCk
            go_wp2
            go_loopw [9] (fun vi wr => ∃ (v : Nat) (ls : List Int), v < m + 2 ∧ vi = .int .i64 (v + 1 : Nat) ∧ Row wr w.heap.size .i32 21 ls ∧ Pre xs ls m (v + 1) ∧ w.grownBy wr none) (fun vi _ => m + 2 - (intOf vi).toNat)
            case atStart => exact ⟨0, _, by omega, rfl, hRk, hP, hgk⟩
            case round =>
              clear hRk hP hgk hRx hlt
              obtain ⟨v, ls, hvm, rfl, hRk, hPk, hgk⟩ := hrel
              by_cases hlt : v + 1 < m + 2
              · have hc0 := hRk.cell v (by rw [hPk.len]; omega)
                have hc1 := hRk.cell (v + 1) (by rw [hPk.len]; omega)
                have hf := hRk.free (v + 1)
                have hP2 := pre_step hPk hlt
                have b0 := pre_bd hPk (j := v) (by omega)
                have b1 := pre_bd hPk (j := v + 1) (by omega)
                rw [hl.out] at b0 b1
                generalize ls.getD (v + 1) 0 = s at hc1 b1 hP2
                generalize ls.getD v 0 = r at hc0 b0 hP2
                have hR3 := hRk.stored (v + 1) (s + r)
                have hg3 := grown_setCell_new hgk (Nat.le_refl _) (v + 1) (.int .i32 (s + r))
                clear hPk
                go_wp2
                go_region
                go_wp2
                go_roundw
                case rel => exact ⟨v + 1, _, by omega, by go_num, hR3, hP2, grown_drew hg3⟩
                case measure => simp [intOf]; omega
              · go_wp2
                go_ret
                exact ⟨rfl, ls, hPk.len, fun k hk => pre_end hPk (by omega) k hk, hRk, hgk⟩
end Go.Proofs.Qxb6617706a
