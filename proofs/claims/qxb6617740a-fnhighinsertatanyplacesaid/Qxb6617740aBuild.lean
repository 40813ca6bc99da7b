import Derived.Test.Qxb6617740aHigh
import Derived.Deep.RegionHeld3
import Derived.Deep.AppendLies
namespace Go.Proofs.Qxb6617740a
open Go.RowKit

theorem Try.info35 : (Try.prog.info? 35).map (fun i => (i.zero, i.size, i.bytes)) = some (some (.agg #[.int .u32 0, .int .u64 0, .slice none 0 0]), 3, 40) := by kernel_rfl

/-- What zzBuildTC leaves: a certificate at block b, its signatures ps in block g. -/
def Tc (w : World) (b g n cap : Nat) (ps : List (Int × Int)) : Prop := w.cell? ⟨b, 1, none⟩ = some (.slice (some ⟨g, 0, none⟩) n cap) ∧ g < w.heap.size ∧ ps.length = n ∧ Ts w g ps

theorem tc_boxed {w : World} {g n cap : Nat} {ps : List (Int × Int)} {t : TypeId} (r : Int) (hg : g < w.heap.size) (hl : ps.length = n) (hT : Ts w g ps) :
    Tc (w.alloc (.cells #[.int .u64 r, .slice (some ⟨g, 0, none⟩) n cap] t)) w.heap.size g n cap ps :=
  ⟨by rw [cell_of_row _ _ 1 _ _ _ (heap_alloc_new w _)]; rfl, by simp; omega, hl, hT.below ((Below.refl w.heap.size w).alloc (Nat.le_refl _) _) hg⟩

set_option maxHeartbeats 2000000 in
set_option maxRecDepth 100000 in
theorem build_any (r : Int) (b1 o1 c1 b2 o2 c2 n lo hi : Nat) (ss hs : List Int) (w : World) (h1 : Nums w .u32 b1 o1 n ss) (h2 : Nums w .u64 b2 o2 n hs) (hlo : lo ≤ hi) (hhi : hi ≤ n) (hn : n ≤ 65536) :
    Calls Try.prog 6 #[.int .u64 r, .slice (some ⟨b1, o1, none⟩) n c1, .slice (some ⟨b2, o2, none⟩) n c2, .int .i64 lo, .int .i64 hi] w fun e w' =>
      ∃ b g cap, e = .returned (.pointer (some ⟨b, 0, none⟩)) ∧ Tc w' b g (hi - lo) cap (pairs ss hs lo (hi - lo)) ∧ Below w.heap.size w w' := by
  obtain ⟨i5, hi5, hz50, hz51, hz52⟩ := info_parts Try.info35
  have I5 : Hid (Try.prog.info? 35 = some i5 ∧ i5.zero = some (.agg #[.int .u32 0, .int .u64 0, .slice none 0 0]) ∧ i5.size = 3 ∧ i5.bytes = 40) := ⟨hi5, hz50, hz51, hz52⟩
  clear hi5 hz50 hz51 hz52
  have hl1 : Hid (ss.length = n) := h1.1
  have hl2 : Hid (hs.length = n) := h2.1
  have hb1 : b1 < w.heap.size := h1.2.1
  have hb2 : b2 < w.heap.size := h2.2.1
  go_enter Try.func6, Try.ntmps6
  go_wp2_with (at_make; refine wpList_make_own w rfl _ _ 32 rfl w.heap.size 35 i5 _ 3 Try.underlying32 I5.out.1 I5.out.2.1 I5.out.2.2.1 .i64 .i64 _ (hi - lo) rfl rfl (by omega) ?c3 ?c4 (Nat.le_refl _) ?_)
  case c3 => rw [I5.out.2.2.2]; omega
  case c4 => unfold maxLen; omega
  intro w1 hown hg1
  have hbel1 : Below w.heap.size w w1 := (Below.refl _ _).grown hg1 (Nat.le_refl _) (fun _ e => by cases e)
  clear hg1
  go_wp2
  go_loopw [11, 12] (fun v i wr => ∃ (k g cap : Nat), lo + k ≤ hi ∧ i = .int .i64 (lo + k : Nat) ∧ v = .slice (some ⟨g, 0, none⟩) k cap ∧ wr.ownsRow w.heap.size 35 3 (.slice (some ⟨g, 0, none⟩) k cap) k (tcells (pairs ss hs lo k)) ∧ Below w.heap.size w wr) (fun _ i _ => hi - (intOf i).toNat)
  case atStart => exact ⟨0, w.heap.size, hi - lo, by omega, rfl, rfl, by rw [pairs_zero, tcells_nil]; exact hown, hbel1⟩
  case round =>
    clear hown hbel1
    obtain ⟨k, g, cap, hk, rfl, rfl, hown, hbel⟩ := hrel
    have hgB : w.heap.size ≤ g ∧ g < wr.heap.size := hown.lt g rfl
    have hsz := hbel.size
    by_cases hlt : lo + k < hi
    · obtain ⟨s, hs1⟩ : ∃ s, ss.getD (lo + k) 0 = s := ⟨_, rfl⟩
      obtain ⟨h, hh1⟩ : ∃ h, hs.getD (lo + k) 0 = h := ⟨_, rfl⟩
      have HE : Hid (pairs ss hs lo (k + 1) = pairs ss hs lo k ++ [(s, h)]) := by rw [← hs1, ← hh1]; exact pairs_succ ss hs lo k n hl1.out hl2.out (by omega)
      have hc1 : wr.cell? ⟨b1, o1 + (lo + k), none⟩ = some (.int .u32 s) := by rw [← hs1]; exact (h1.below hbel hb1).2.2 (lo + k) (by omega)
      have hc2 : wr.cell? ⟨b2, o2 + (lo + k), none⟩ = some (.int .u64 h) := by rw [← hh1]; exact (h2.below hbel hb2).2.2 (lo + k) (by omega)
      clear hs1 hh1
      obtain ⟨j, hj⟩ : ∃ j, lo + k = j := ⟨_, rfl⟩
      rw [hj] at hlt hc1 hc2 ⊢
      have HJ : Hid (lo + k = j) := hj
      clear hj hk
      have q0 : (0 : Int) ≤ (j : Int) := by omega
      have q1 : (j : Int) < (n : Int) := by omega
      have h63 : k + 1 ≤ maxLen := by have := HJ.out; unfold maxLen; omega
      have hby : (k + 1) * 40 ≤ 140737488355328 := by have := HJ.out; omega
      have n1 : (Value.slice (some ⟨g, 0, none⟩) k cap).ownBlock ≠ some b1 := by simp [Value.ownBlock]; omega
      have n2 : (Value.slice (some ⟨g, 0, none⟩) k cap).ownBlock ≠ some b2 := by simp [Value.ownBlock]; omega
      go_wp2
      go_region_held3 (fun w' => w'.cell? ⟨b1, o1 + j, none⟩ = some (.int .u32 s) ∧ w'.cell? ⟨b2, o2 + j, none⟩ = some (.int .u64 h))
        (first
          | go_keep
          | (go_split_ands
             refine ⟨?_, ?_⟩
             · (rw [hgrow.cell_far _ (by simp; omega) (Ne.symm n1)]; assumption)
             · (rw [hgrow.cell_far _ (by simp; omega) (Ne.symm n2)]; assumption)))
        ((refine step_append_lies _ (by rfl) _ _ _ (by rfl) w.heap.size 35 i5 _ 3 40 Try.underlying32 I5.out.1 I5.out.2.1 I5.out.2.2.1 I5.out.2.2.2 rfl (by omega) (.slice (some ⟨g, 0, none⟩) k cap) k (tcells (pairs ss hs lo k)) (by rfl) ((hown.alloc _).drew)
            ⟨wr.heap.size, 0, none⟩ 1 1 [.int .u32 s, .int .u64 h, .slice none 0 0] (by rfl) (by rfl) (World.news_of_block (cs := #[.int .u32 s, .int .u64 h, .slice none 0 0]) (t := 35) (fr := (0, 0)) (heap_alloc_new wr _)) (by simp [Value.oneCell'])
            (by omega) h63 hby (by simp; omega) (wr.heap.size + 1) (by simp) ?_; intro gg cap' w2 hown1 hgrow hat hlt2))
      have hown2 : w2.ownsRow w.heap.size 35 3 (.slice (some ⟨gg, 0, none⟩) (k + 1) cap') (k + 1) (tcells (pairs ss hs lo (k + 1))) := by rw [HE.out, tcells_snoc]; exact hown1
      have hbel2 : Below w.heap.size w w2 := ((hbel.alloc hsz _).drew).grown hgrow (by simp; omega) (fun q e => by simp [Value.ownBlock] at e; omega)
      clear hown1 hgrow hat hlt2 hown hbel
      go_wp2
      go_roundw
      case rel => exact ⟨k + 1, gg, cap', by have := HJ.out; omega, by have := HJ.out; congr 1; omega, rfl, hown2, hbel2⟩
      case measure => simp [intOf]; omega
    · obtain ⟨j, hj⟩ : ∃ j, lo + k = j := ⟨_, rfl⟩
      have e2 : k = hi - lo := by omega
      rw [hj] at hlt ⊢
      have hjh : hi ≤ j := by omega
      clear hj
      have hpl : (pairs ss hs lo k).length = k := pairs_length ss hs lo k n hl1.out hl2.out (by omega)
      have hT : Ts wr g (pairs ss hs lo k) := Ts.of_owns hown hpl
      have HP : Hid ((pairs ss hs lo k).length = k) := hpl
      have HE2 : Hid (k = hi - lo) := e2
      clear hpl e2
      go_wp2
      go_ret
      refine ⟨wr.heap.size, g, cap, rfl, ?_, hbel.alloc hsz _⟩
      rw [← HE2.out]
      exact tc_boxed r hgB.2 HP.out hT

set_option maxHeartbeats 1000000 in
set_option maxRecDepth 100000 in
/-- No timeout at all. -/
theorem build_none (r : Int) (a1 a2 : Option Addr) (n1 c1 n2 c2 : Nat) (w : World) :
    Calls Try.prog 6 #[.int .u64 r, .slice a1 n1 c1, .slice a2 n2 c2, .int .i64 0, .int .i64 0] w fun e w' =>
      ∃ b g cap, e = .returned (.pointer (some ⟨b, 0, none⟩)) ∧ Tc w' b g 0 cap [] ∧ Below w.heap.size w w' := by
  obtain ⟨i5, hi5, hz50, hz51, hz52⟩ := info_parts Try.info35
  have I5 : Hid (Try.prog.info? 35 = some i5 ∧ i5.zero = some (.agg #[.int .u32 0, .int .u64 0, .slice none 0 0]) ∧ i5.size = 3 ∧ i5.bytes = 40) := ⟨hi5, hz50, hz51, hz52⟩
  clear hi5 hz50 hz51 hz52
  go_enter Try.func6, Try.ntmps6
  go_wp2_with (at_make; refine wpList_make_own w rfl _ _ 32 rfl w.heap.size 35 i5 _ 3 Try.underlying32 I5.out.1 I5.out.2.1 I5.out.2.2.1 .i64 .i64 _ 0 rfl rfl (by omega) (Nat.zero_le _) (Nat.zero_le _) (Nat.le_refl _) ?_)
  intro w1 hown hg1
  have hbel1 : Below w.heap.size w w1 := (Below.refl _ _).grown hg1 (Nat.le_refl _) (fun _ e => by cases e)
  have hgl : w.heap.size < w1.heap.size := (hown.lt _ rfl).2
  clear hg1 hown
  go_wp2
  refine wp_loop_rounds 1 ?_
  rw [rounds_succ]
  go_wp2
  go_ret
  exact ⟨w1.heap.size, w.heap.size, 0, rfl, tc_boxed r hgl rfl (fun j hj => by simp at hj), hbel1.alloc hbel1.size _⟩
end Go.Proofs.Qxb6617740a
