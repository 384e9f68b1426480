/-
  The walk of the law: no text (nil).
-/
import Derived.Test.Qxb6600006aZz
namespace Go.Proofs.Qxb6600006a.sk
open Go.RowKit
set_option linter.unusedVariables false

set_option maxHeartbeats 4000000 in
set_option maxRecDepth 100000 in
theorem law_nil (a1 : Int) (a2 : Bool) (w : World) (b1 : -9223372036854775808 ≤ a1 ∧ a1 ≤ 9223372036854775807) :
    Calls Try.prog 3 #[.slice none 0 0, .int .i64 a1, .bool a2] w fun e w' => e = .returned (.bool true) ∧ Below w.heap.size w w' := by
  have ne := fun wx => run_neq_slice_nil_any (P := Try.prog) wx 22 5 none 0 0 0 0 Try.underlying22
  by_cases c2 : a1 = 0
  · subst c2
    go_enter Try.func3, Try.ntmps3
    go_wp2_with (go_at_call 6; refine (small none 0 0 0 a2 _ (Nat.zero_le _)).mono ?_; rintro e w' ⟨rfl, rfl⟩)
    refine (zskip_nil _ a2).mono ?_
    rintro e w1 ⟨rfl, hB1⟩
    go_wp2_with fail
    refine (zskip_nil _ a2).mono ?_
    rintro e w2 ⟨rfl, hB2⟩
    go_wp2_with fail
    go_ret
    exact ⟨by simp, hB1.trans (hB2.mono hB1.size)⟩
  · rcases Int.lt_or_gt_of_ne c2 with c3 | c3
    all_goals
      go_enter Try.func3, Try.ntmps3
      go_wp2_with (go_at_call 6; refine (small none 0 0 a1 a2 _ (Nat.zero_le _)).mono ?_; rintro e w' ⟨rfl, rfl⟩)
      go_ret
      exact ⟨rfl, Below.refl _ _⟩
end Go.Proofs.Qxb6600006a.sk
