import Derived.Test.Qxb6617687aRows
import Derived.Test.Qxb6617687aLaws
namespace Go.Proofs.Qxb6617687a
open Go.RowKit

theorem Try.info23 : (Try.prog.info? 23).map (fun i => (i.zero, i.size)) = some (some (.agg (tab 0)), 325) := by rw [tab_zero]; kernel_rfl
theorem Try.size23 : (Try.prog.info? 23).map (·.size) = some 325 := (zero_of_info Try.info23).2

theorem or_dig : ∀ k : Nat, k < 325 → bits BinOp.or IntKind.u32 (bits BinOp.or IntKind.u32 (48 + (k : Int) / 100) ((48 + (k : Int) / 10 % 10) * 256)) ((48 + (k : Int) % 10) * 65536) = dig k := by decide +kernel

theorem setRow_keeps {w0 w : World} {B g : Nat} (h : Below B w0 w) (hg : B ≤ g) (cs : Array Value) : Below B w0 (w.setRow g cs) :=
  h.trans ⟨rfl, rfl, rfl, by simp, fun k hk => setRow_other w g k _ (by omega)⟩

set_option maxHeartbeats 400000 in
set_option maxRecDepth 100000 in
theorem make_any (w : World) :
    Calls Try.prog 5 #[] w fun e w' => e = .returned (.agg (tab 325)) ∧ Below w.heap.size w w' := by
  go_enter Try.func5, Try.ntmps5
  go_wp2_with (refine wpList_alloc_row (P := Try.prog) rfl 23 rfl (tab 0) 325 Try.info23 ?_)
  go_loopw [2] (fun i wr => ∃ k : Nat, k ≤ 325 ∧ i = .int .i64 k ∧ wr.heap[w.heap.size]? = some (.cells (tab k) 23 (0, 0)) ∧ Below w.heap.size w wr)
    (fun i _ => 325 - (intOf i).toNat)
  case atStart => exact ⟨0, by omega, rfl, heap_alloc_new _ _, (Below.refl _ _).alloc (Nat.le_refl _) _⟩
  case round =>
    obtain ⟨k, hk, rfl, hb, hbel⟩ := hrel
    by_cases hlt : k < 325
    · have hcell : wr.cell? ⟨w.heap.size, k, none⟩ = some (.int .u32 0) := by rw [cell_of_row wr _ k _ _ _ hb, tab_get k k hlt]; simp
      have hfr : wr.frozen? ⟨w.heap.size, k, none⟩ = false := frozen_of_row wr _ k _ _ hb
      go_wp2
      rw [or_dig k hlt]
      go_roundw
      case rel => exact ⟨k + 1, by omega, by go_num, by rw [heap_setCell_same wr _ k _ _ _ hb, tab_set k hlt], hbel.setCell (Nat.le_refl _) _⟩
      case measure => simp [intOf]; omega
    · obtain rfl : k = 325 := by omega
      go_wp2_with (first | (refine wpList_load_row (P := Try.prog) rfl 23 _ rfl w.heap.size rfl 23 (tab 325) (0, 0) _ hb Try.underlying23 rfl (by rw [tab_size]; exact Try.size23) ?_) | (refine wpList_store_row (P := Try.prog) rfl 23 _ _ rfl w.heap.size (tab 325) rfl rfl 23 (tab 325) hb (by rw [tab_size]; exact Try.size23) rfl (tab_one _) ?_))
      (try simp only [Exit.inBlock, Exit.then])
      refine bodyPost_ret (v := .agg (tab 325)) ?_ rfl ⟨rfl, setRow_keeps hbel (Nat.le_refl _) _⟩
      exact results_cell_row (P := Try.prog) Try.results5 _ _ w.heap.size 23 (tab 325) (0, 0) _ rfl (setRow_heap wr _ _ _ _ _ hb) Try.underlying23 rfl (by rw [tab_size]; exact Try.size23)

set_option maxHeartbeats 400000 in
set_option maxRecDepth 100000 in
theorem zzmake_any (w : World) :
    Calls Try.prog 4 #[] w fun e w' => e = .returned (.agg (tab 325)) ∧ Below w.heap.size w w' := by
  go_enter Try.func4, Try.ntmps4
  go_wp2_with (refine wpList_alloc_row (P := Try.prog) rfl 23 rfl (tab 0) 325 Try.info23 ?_)
  refine (make_any _).mono ?_
  rintro e w1 ⟨rfl, hb1⟩
  have hz : w1.heap[w.heap.size]? = some (.cells (tab 0) 23 (0, 0)) := by rw [hb1.block _ (by simp)]; exact heap_alloc_new _ _
  have hbel : Below w.heap.size w w1 := ((Below.refl _ _).alloc (Nat.le_refl _) _).trans (hb1.mono (by simp))
  clear hb1
  go_wp2_with (refine wpList_store_row (P := Try.prog) rfl 23 _ _ rfl w.heap.size (tab 325) rfl rfl 23 (tab 0) hz (by rw [tab_size]; exact Try.size23) (by rw [tab_size, tab_size]) (tab_one _) ?_)
  (try simp only [Exit.inBlock, Exit.then])
  refine bodyPost_ret (v := .agg (tab 325)) ?_ rfl ⟨rfl, setRow_keeps hbel (Nat.le_refl _) _⟩
  exact results_cell_row (P := Try.prog) Try.results4 _ _ w.heap.size 23 (tab 325) (0, 0) _ rfl (setRow_heap w1 _ _ _ _ _ hz) Try.underlying23 rfl (by rw [tab_size]; exact Try.size23)

theorem dig_parts (n : Nat) (hn : n < 325) : ∃ a b c : Int, 0 ≤ a ∧ a ≤ 9 ∧ 0 ≤ b ∧ b ≤ 9 ∧ 0 ≤ c ∧ c ≤ 9 ∧ dig n = 48 + a + (48 + b) * 256 + (48 + c) * 65536 ∧ (n : Int) ≤ 100 * a + 10 * b + c ∧ 100 * a + 10 * b + c ≤ (n : Int) :=
  ⟨(n / 100 : Nat), (n / 10 % 10 : Nat), (n % 10 : Nat), by omega, by omega, by omega, by omega, by omega, by omega, by unfold dig; omega, by omega, by omega⟩

theorem low_byte (a b c : Int) (h0 : 0 ≤ a) (h9 : a ≤ 9) : (48 + a + (48 + b) * 256 + (48 + c) * 65536) % 256 = 48 + a := by
  have e : (48 + a + (48 + b) * 256 + (48 + c) * 65536) / 256 = 48 + b + (48 + c) * 256 := by omega
  omega
theorem mid_byte (a b c : Int) (h0 : 0 ≤ a) (h9 : a ≤ 9) (k0 : 0 ≤ b) (k9 : b ≤ 9) : (48 + a + (48 + b) * 256 + (48 + c) * 65536) / 256 % 256 = 48 + b := by
  have e : (48 + a + (48 + b) * 256 + (48 + c) * 65536) / 256 = 48 + b + (48 + c) * 256 := by omega
  rw [e]; omega
theorem high_byte (a b c : Int) (h0 : 0 ≤ a) (h9 : a ≤ 9) (k0 : 0 ≤ b) (k9 : b ≤ 9) : (48 + a + (48 + b) * 256 + (48 + c) * 65536) / 65536 = 48 + c := by omega

set_option maxHeartbeats 400000 in
set_option maxRecDepth 100000 in
theorem law_any (w : World) :
    Calls Try.prog 3 #[] w fun e w' => e = .returned (.bool true) ∧ Below w.heap.size w w' := by
  go_enter Try.func3, Try.ntmps3
  go_wp2_with fail
  refine (zzmake_any _).mono ?_
  rintro e w1 ⟨rfl, hb1⟩
  have hz : (w1.alloc (.cells (tab 0) 23)).heap[w1.heap.size]? = some (.cells (tab 0) 23 (0, 0)) := heap_alloc_new _ _
  go_wp2_with (first | (refine wpList_alloc_row (P := Try.prog) rfl 23 rfl (tab 0) 325 Try.info23 ?_) | (refine wpList_store_row (P := Try.prog) rfl 23 _ _ rfl w1.heap.size (tab 325) rfl rfl 23 (tab 0) hz (by rw [tab_size]; exact Try.size23) (by rw [tab_size, tab_size]) (tab_one _) ?_))
  have hz2 : ((w1.alloc (.cells (tab 0) 23)).setRow w1.heap.size (tab 325)).heap[w1.heap.size]? = some (.cells (tab 325) 23 (0, 0)) := setRow_heap _ _ _ _ _ _ hz
  have hbel : Below w.heap.size w ((w1.alloc (.cells (tab 0) 23)).setRow w1.heap.size (tab 325)) := setRow_keeps (hb1.alloc hb1.size _) hb1.size _
  clear hz hb1
  generalize (w1.alloc (.cells (tab 0) 23)).setRow w1.heap.size (tab 325) = W at hz2 hbel ⊢
  generalize w1.heap.size = g at hz2 ⊢
  go_loop [2] (fun i => ∃ n : Nat, n ≤ 325 ∧ i = .int .i64 n) (fun i => 325 - (intOf i).toNat)
  case atStart => exact ⟨0, by omega, rfl⟩
  case round =>
    obtain ⟨n, hn, rfl⟩ := hrel
    by_cases hlt : n < 325
    · obtain ⟨a, b, c, ha0, ha9, hb0, hb9, hc0, hc9, hd, hn1, hn2⟩ := dig_parts n hlt
      have hcell : W.cell? ⟨g, n, none⟩ = some (.int .u32 (48 + a + (48 + b) * 256 + (48 + c) * 65536)) := by rw [cell_of_row W _ n _ _ _ hz2, tab_get _ n hlt, if_pos hlt, hd]
      clear hd hz2
      have hx24 : ((48 + a + (48 + b) * 256 + (48 + c) * 65536) / 16777216 != 0) = false := by
        rw [show (48 + a + (48 + b) * 256 + (48 + c) * 65536) / 16777216 = 0 by omega]; rfl
      go_wp2
      go_loop [4, 5] (fun v k => (v = .int .i64 0 ∧ k = .int .u64 0) ∨ (v = .int .i64 a ∧ k = .int .u64 1) ∨ (v = .int .i64 (10 * a + b) ∧ k = .int .u64 2) ∨ (v = .int .i64 (100 * a + 10 * b + c) ∧ k = .int .u64 3)) (fun _ k => 3 - (intOf k).toNat)
      case atStart => exact .inl ⟨rfl, rfl⟩
      case round =>
        have q0 : 48 ≤ (48 + a + (48 + b) * 256 + (48 + c) * 65536) % 256 := by rw [low_byte a b c ha0 ha9]; omega
        have q1 : (48 + a + (48 + b) * 256 + (48 + c) * 65536) % 256 ≤ 57 := by rw [low_byte a b c ha0 ha9]; omega
        have q2 : 48 ≤ (48 + a + (48 + b) * 256 + (48 + c) * 65536) / 256 % 256 := by rw [mid_byte a b c ha0 ha9 hb0 hb9]; omega
        have q3 : (48 + a + (48 + b) * 256 + (48 + c) * 65536) / 256 % 256 ≤ 57 := by rw [mid_byte a b c ha0 ha9 hb0 hb9]; omega
        rcases hrel with ⟨rfl, rfl⟩ | ⟨rfl, rfl⟩ | ⟨rfl, rfl⟩ | ⟨rfl, rfl⟩
        · go_wp2
          go_round
          case rel => exact .inr (.inl ⟨by rw [low_byte a b c ha0 ha9]; congr 1; omega, rfl⟩)
          case measure => simp [intOf]
        · go_wp2
          go_round
          case rel => exact .inr (.inr (.inl ⟨by rw [mid_byte a b c ha0 ha9 hb0 hb9]; congr 1; omega, rfl⟩))
          case measure => simp [intOf]
        · go_wp2
          go_round
          case rel => exact .inr (.inr (.inr ⟨by rw [high_byte a b c ha0 ha9 hb0 hb9]; congr 1; omega, rfl⟩))
          case measure => simp [intOf]
        · go_wp2
          go_round
          case rel => exact ⟨n + 1, by omega, by go_num⟩
          case measure => simp [intOf]; omega
    · go_wp2
      go_ret
      exact ⟨rfl, hbel⟩
end Go.Proofs.Qxb6617687a
