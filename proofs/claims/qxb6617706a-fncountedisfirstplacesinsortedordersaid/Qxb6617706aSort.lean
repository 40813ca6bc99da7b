import Derived.Test.Qxb6617706aRows
import Derived.Test.Qxb6617706aLaws
namespace Go.Proofs.Qxb6617706a
open Go.RowKit

set_option maxHeartbeats 1000000 in
set_option maxRecDepth 100000 in
/-- zzInsertionSort over a row of the caller's own: the row then holds the same numbers in order; no other block turns. -/
theorem sort_any (g n cap : Nat) (xs : List Int) (w : World) (hR : Row w g .u32 25 xs) (hl : Hid (xs.length = n)) (hn : n ≤ 4096) :
    Calls Try.prog 5 #[.slice (some ⟨g, 0, none⟩) n cap] w fun e w' =>
      e = .returned (.tuple #[]) ∧ ∃ ys : List Int, ys.Perm xs ∧ ys.length = n ∧ SortedTo ys n ∧ Row w' g .u32 25 ys ∧ w.grownBy w' (some g) := by
  go_enter Try.func5, Try.ntmps5
  go_wp2
  go_loopw [2] (fun vi wr => ∃ (i : Nat) (ys : List Int), vi = .int .i64 i ∧ 1 ≤ i ∧ i ≤ n + 1 ∧ Hid (ys.length = n) ∧ ys.Perm xs ∧ SortedTo ys i ∧ Row wr g .u32 25 ys ∧ w.grownBy wr (some g)) (fun vi _ => n + 1 - (intOf vi).toNat)
  case atStart => exact ⟨1, xs, rfl, by omega, by omega, hl, List.Perm.refl _, sorted_one _, hR, World.grownBy.refl _ _⟩
  case round =>
    obtain ⟨i, ys, rfl, hi1, hin, hyl, hp, hs, hRr, hgr⟩ := hrel
    by_cases hlt : i < n
    · obtain ⟨x, hx⟩ : ∃ x, ys.getD i 0 = x := ⟨_, rfl⟩
      have hc : wr.cell? ⟨g, i, none⟩ = some (.int .u32 x) := by rw [← hx]; exact hRr.cell i (by rw [hyl.out]; exact hlt)
      have hst : Ins xs ys i i x := by rw [← hx]; exact ins_start (by rw [hyl.out, hl.out]) hp (by rw [hl.out]; exact hlt) hs
      clear hx
      go_wp2
      go_loopw [4] (fun vj w2 => ∃ (j : Nat) (zs : List Int), vj = .int .i64 j ∧ Ins xs zs i j x ∧ Row w2 g .u32 25 zs ∧ w.grownBy w2 (some g)) (fun vj _ => (intOf vj).toNat)
      case atStart => exact ⟨i, ys, rfl, hst, hRr, hgr⟩
      case round =>
        clear hc hst hRr hgr hs hp hyl
        obtain ⟨j, zs, rfl, hI, hR2, hg2⟩ := hrel
        have hzl : zs.length = xs.length := hI.len
        have hji := hI.ji
        have hxl : i < xs.length := hI.il
        cases j with
        | zero =>
          obtain ⟨y, hy⟩ : ∃ y, zs.getD 0 0 = y := ⟨_, rfl⟩
          have hc : wr.cell? ⟨g, 0, none⟩ = some (.int .u32 y) := by rw [← hy]; exact hR2.cell 0 (by omega)
          have hf := hR2.free 0
          have E := ins_end hI (.inl rfl)
          have hR3 := hR2.stored 0 x
          have hg3 := grown_setCell hg2 0 (.int .u32 x)
          clear hzl hxl hy hI
          go_wp2
          go_roundw
          case rel => exact ⟨i + 1, zs.set 0 x, by go_num, by omega, by omega, E.1.trans hl.out, E.2.1, E.2.2, hR3, hg3⟩
          case measure => simp [intOf]; omega
        | succ j =>
          obtain ⟨y, hy⟩ : ∃ y, zs.getD j 0 = y := ⟨_, rfl⟩
          obtain ⟨z, hz⟩ : ∃ z, zs.getD (j + 1) 0 = z := ⟨_, rfl⟩
          have hc : wr.cell? ⟨g, j, none⟩ = some (.int .u32 y) := by rw [← hy]; exact hR2.cell j (by omega)
          have hc1 : wr.cell? ⟨g, j + 1, none⟩ = some (.int .u32 z) := by rw [← hz]; exact hR2.cell (j + 1) (by omega)
          have hf := hR2.free (j + 1)
          by_cases hxy : x < y
          · have hI2 := ins_step hI (by rw [hy]; exact hxy)
            rw [hy] at hI2
            have hR3 := hR2.stored (j + 1) y
            have hg3 := grown_setCell hg2 (j + 1) (.int .u32 y)
            clear hzl hxl hy hz hI
            go_wp2
            go_roundw
            case rel => exact ⟨j, zs.set (j + 1) y, by go_num, hI2, hR3, hg3⟩
            case measure => simp [intOf]
          · have E := ins_end hI (.inr (by show zs.getD j 0 ≤ x; rw [hy]; omega))
            have hR3 := hR2.stored (j + 1) x
            have hg3 := grown_setCell hg2 (j + 1) (.int .u32 x)
            clear hzl hxl hy hz hI
            go_wp2
            go_roundw
            case rel => exact ⟨i + 1, zs.set (j + 1) x, by go_num, by omega, by omega, E.1.trans hl.out, E.2.1, E.2.2, hR3, hg3⟩
            case measure => simp [intOf]; omega
    · go_wp2
      go_end0
      exact ⟨rfl, ys, hp, hyl.out, sorted_mono hs (by omega), hRr, hgr⟩
end Go.Proofs.Qxb6617706a
