/-
  The contracts of skip and ZZSkip at a nil text.
-/
import Derived.Test.Qxb6600006aCalls
namespace Go.Proofs.Qxb6600006a.sk
open Go.RowKit
set_option linter.unusedVariables false

set_option maxRecDepth 100000 in
theorem skip_nil (w : World) (lb : Nat) (c : Bool) (ct : w.cell? ⟨lb, 0, none⟩ = some (.slice none 0 0)) (cp : w.cell? ⟨lb, 1, none⟩ = some (.int .i64 0)) (cc : w.cell? ⟨lb, 2, none⟩ = some (.bool c)) :
    Calls Try.prog 14 #[.pointer (some ⟨lb, 0, none⟩)] w fun e w' => e = .returned (.tuple #[]) ∧ ∃ q, w' = w.drewN q := by
  go_enter Try.func14, Try.ntmps14
  go_wp2_with fail
  refine wp_loop_rounds 1 ?_
  rw [rounds_succ]
  go_wp2_with fail
  go_quiet (fail)
  go_wp2_with fail
  go_end0
  exact ⟨rfl, _, rfl⟩

theorem zskip_nil (w : World) (c : Bool) :
    Calls Try.prog 7 #[.slice none 0 0, .int .i64 0, .bool c] w fun e w' => e = .returned (.tuple #[.int .i64 0, .bool c]) ∧ Below w.heap.size w w' := by
  go_enter Try.func7, Try.ntmps7
  go_wp2_with fail
  refine (skip_nil _ w.heap.size c (by go_simp) (by go_simp) (by go_simp)).mono ?_
  rintro e w' ⟨rfl, q, hw⟩
  have c1 : w'.cell? ⟨w.heap.size, 1, none⟩ = some (.int .i64 0) := by rw [hw]; go_simp
  have c2 : w'.cell? ⟨w.heap.size, 2, none⟩ = some (.bool c) := by rw [hw]; go_simp
  have hB : Below w.heap.size w w' := by rw [hw]; exact below_drewN ((Below.refl _ _).alloc (Nat.le_refl _) _) _
  clear hw
  go_wp2_with fail
  go_quiet (fail)
  go_wp2_with fail
  go_ret2
  exact ⟨rfl, below_drewN hB _⟩
end Go.Proofs.Qxb6600006a.sk
