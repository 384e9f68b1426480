/-
  The walk of the law: no pieces (nil).
-/
import Derived.Test.Qxb6002390aLaw
namespace Go.Proofs.Qxb6002390a.lc
open Go.RowKit
set_option linter.unusedVariables false

set_option maxHeartbeats 4000000 in
set_option maxRecDepth 100000 in
theorem law_nil (s : Int) (b : Bool) (w : World) (hs : -9223372036854775808 ≤ s ∧ s ≤ 9223372036854775807) :
    Calls Try.prog 3 #[.slice none 0 0, .int .i64 s, .bool b] w fun e w' => e = .returned (.bool true) ∧ Below w.heap.size w w' := by
  have ne22 := fun wx => run_neq_slice_nil_any (P := Try.prog) wx 22 24 none 0 0 0 0 Try.underlying22
  go_enter Try.func3, Try.ntmps3
  go_wp2_with fail
  refine (small_nil s b w).mono ?_
  rintro e w' ⟨rfl, hw⟩
  rw [hw]
  clear hw w'
  go_wp2_with fail
  refine wp_loop_rounds 1 ?_
  rw [rounds_succ]
  by_cases c2 : s < 0
  · go_wp2_with fail
    go_ret
    exact ⟨rfl, Below.refl _ _⟩
  by_cases c3 : 1073741824 < s
  · go_wp2_with fail
    go_ret
    exact ⟨rfl, Below.refl _ _⟩
  obtain ⟨i5, hi, hz0, hz1, hz2⟩ := info_parts info5
  go_wp2_with (at_make; refine wpList_make_own _ rfl _ _ 24 rfl w.heap.size 5 i5 (.int .u8 0) 1 Try.underlying24 hi hz0 hz1 _ _ _ 0 rfl rfl rfl (by rw [hz2]; omega) (by unfold maxLen; omega) (Nat.le_refl _) ?_)
  intro w2 hown hgrow
  have hB2 : Below w.heap.size w w2 := (Below.refl _ _).grown hgrow (Nat.le_refl _) (fun k h => by cases h)
  have hgw : w.heap.size < w2.heap.size := own_lt hown
  clear hown hgrow hi hz0 hz1 hz2 ne22
  go_wp2_with fail
  refine wp_loop_rounds 1 ?_
  rw [rounds_succ]
  go_wp2_with fail
  refine wp_loop_rounds 1 ?_
  rw [rounds_succ]
  go_wp2_with fail
  refine (ctrAt s b w2).mono ?_
  rintro e wA ⟨rfl, hwA⟩
  have hcA : Hid (Ctr wA w2.heap.size s b) := by rw [hwA]; exact ctr_new w2 s b
  have hBA : Below w2.heap.size w2 wA := by rw [hwA]; exact (Below.refl _ _).alloc (Nat.le_refl _) _
  have hsA : w2.heap.size < wA.heap.size := World.block_lt_of_cell? wA _ hcA.out.c0
  clear hwA
  go_wp2_with fail
  refine wp_loop_rounds 1 ?_
  rw [rounds_succ]
  go_wp2_with fail
  refine (ctrAt s b wA).mono ?_
  rintro e wB ⟨rfl, hwB⟩
  have HcB : Hid (Ctr wB wA.heap.size s b) := by rw [hwB]; exact ctr_new wA s b
  have HBB : Hid (Below wA.heap.size wA wB) := by rw [hwB]; exact (Below.refl _ _).alloc (Nat.le_refl _) _
  clear hwB
  go_wp2_with fail
  refine (zwrite wA.heap.size 0 _ [] _ _ wB (write_row wA.heap.size w.heap.size 0 0 [] s b wB HcB.out (by omega) rfl (by omega) (by omega) (by omega) (fun x hx => by cases hx) (fun j hj => by omega))).mono ?_
  rintro e w5 ⟨rfl, hctr5, hgr5⟩
  have hB5 : Below wA.heap.size wA w5 := HBB.out.grown hgr5 HBB.out.size (fun q hq => by cases hq; exact Nat.le_refl _)
  have a0 : w5.cell? ⟨w2.heap.size, 0, none⟩ = some (.int .i64 s) := (hB5.cell (p := ⟨w2.heap.size, 0, none⟩) hsA).trans hcA.out.c0
  have a1 : w5.cell? ⟨w2.heap.size, 1, none⟩ = some (.bool b) := (hB5.cell (p := ⟨w2.heap.size, 1, none⟩) hsA).trans hcA.out.c1
  have b0 : w5.cell? ⟨wA.heap.size, 0, none⟩ = some (.int .i64 s) := by simpa [cnt] using hctr5.c0
  have b1 : w5.cell? ⟨wA.heap.size, 1, none⟩ = some (.bool b) := hctr5.c1
  have HB5 : Hid (Below w.heap.size w w5) := hB2.trans ((hBA.mono (by omega)).trans (hB5.mono (by omega)))
  clear hctr5 hgr5 hB5
  go_wp2_with fail
  refine (state w2.heap.size _ _ w5 a0 a1).mono ?_
  rintro e w6 ⟨rfl, m1, rfl⟩
  go_wp2_with fail
  refine (state wA.heap.size _ _ _ (by exact b0) (by exact b1)).mono ?_
  rintro e w7 ⟨rfl, m2, rfl⟩
  go_wp2_with fail
  go_ret
  exact ⟨rfl, below_drewN HB5.out _⟩
end Go.Proofs.Qxb6002390a.lc
