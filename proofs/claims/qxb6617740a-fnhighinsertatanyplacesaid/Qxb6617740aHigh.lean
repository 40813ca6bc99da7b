import Derived.Test.Qxb6617740aRows
import Derived.Test.Qxb6617740aLaws
namespace Go.Proofs.Qxb6617740a
open Go.RowKit

theorem max_if (t x : Int) : (if t < x then x else t) = max t x := by split <;> omega

theorem max_any (a b : Int) (w : World) :
    Calls Try.prog 8 #[.int .u64 a, .int .u64 b] w fun e w' => e = .returned (.int .u64 (max a b)) ∧ w = w' := by
  by_cases h : b < a
  · go_enter Try.func8, Try.ntmps8
    go_wp2
    go_ret
    exact ⟨by simp; omega, rfl⟩
  · go_enter Try.func8, Try.ntmps8
    go_wp2
    go_ret
    exact ⟨by simp; omega, rfl⟩

set_option maxHeartbeats 1000000 in
set_option maxRecDepth 100000 in
/-- High of a certificate that lies at block b, its signatures in block g. -/
theorem high_any (b g n cap : Nat) (ps : List (Int × Int)) (w : World) (hb : w.cell? ⟨b, 1, none⟩ = some (.slice (some ⟨g, 0, none⟩) n cap)) (hg : g < w.heap.size)
    (hl : Hid (ps.length = n)) (hn : n ≤ 100000) (hT : Ts w g ps) (hnn : Hid (∀ p ∈ ps, 0 ≤ p.2)) :
    Calls Try.prog 7 #[.pointer (some ⟨b, 0, none⟩)] w fun e w' => e = .returned (.int .u64 (top (ps.map (·.2)))) ∧ Below w.heap.size w w' := by
  go_enter Try.func7, Try.ntmps7
  go_wp2
  go_loopw [3, 11] (fun t i wr => ∃ k : Nat, k ≤ n ∧ i = .int .i64 k ∧ t = .int .u64 (top ((ps.take k).map (·.2))) ∧ Below w.heap.size w wr) (fun _ i _ => n - (intOf i).toNat)
  case atStart => exact ⟨0, by omega, rfl, rfl, Below.refl _ _⟩
  case round =>
    obtain ⟨k, hk, rfl, rfl, hbel⟩ := hrel
    have hsz := hbel.size
    by_cases hlt : k < n
    · have hkl : k < ps.length := by rw [hl.out]; exact hlt
      have hc := hT.below hbel hg k hkl
      have hm : ps.getD k (0, 0) ∈ ps := by simp [hkl]
      have h0 := hnn.out _ hm
      have HE : Hid (top ((ps.take (k + 1)).map (·.2)) = max (top ((ps.take k).map (·.2))) (ps.getD k (0, 0)).2) := by
        show top ((ps.take (k + 1)).map (·.2)) = _
        rw [take_snoc ps (0, 0) k hkl, List.map_append, List.map_cons, List.map_nil, top_snoc _ _ h0]
      obtain ⟨hc0, hc1, hc2⟩ := hc
      generalize (ps.getD k (0, 0)).1 = s at hc0
      generalize (ps.getD k (0, 0)).2 = h at hc1 HE
      generalize top ((ps.take k).map (·.2)) = t at HE ⊢
      clear h0 hm hkl
      go_wp2
      go_roundw
      case rel => exact ⟨k + 1, by omega, by go_num, by rw [HE.out, max_if], hbel.alloc hsz _⟩
      case measure => simp [intOf]; omega
    · rw [List.take_of_length_le (by rw [hl.out]; omega)]
      go_wp2
      go_ret
      exact ⟨rfl, hbel⟩
end Go.Proofs.Qxb6617740a
