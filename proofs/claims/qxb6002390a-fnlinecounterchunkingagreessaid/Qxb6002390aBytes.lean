/-
  What is known of the pieces; the contract of zzBytes.
-/
import Derived.Test.Qxb6002390aWrite
namespace Go.Proofs.Qxb6002390a.lc
open Go.RowKit
set_option linter.unusedVariables false

/-- The pieces that came in: n slice headers from x on; piece i is nil, or L i bytes at an address. -/
structure Pieces (w : World) (x : Addr) (n : Nat) (A : Nat → Option Addr) (L C : Nat → Nat) (B : Nat → Nat → Int) : Prop where
  head : ∀ i, i < n → w.cell? (x.add i) = some (.slice (A i) (L i) (C i))
  nil : ∀ i, i < n → A i = none → L i = 0 ∧ C i = 0
  len : ∀ i, i < n → L i ≤ maxLen
  cells : ∀ i, i < n → ∀ y, A i = some y → ∀ j, j < L i → w.cell? (y.add j) = some (.int .u8 (B i j))
  byte : ∀ i, i < n → ∀ j, j < L i → 0 ≤ B i j ∧ B i j < 256

def SmallPost (n : Nat) (L : Nat → Nat) (e : Ending) : Prop := ∃ r : Bool, e = .returned (.bool r) ∧ (r = true → ∀ i, i < n → L i ≤ 1048576)

theorem small_nil (p : Int) (b : Bool) (w : World) : Calls Try.prog 4 #[.slice none 0 0, .int .i64 p, .bool b] w fun e w' => e = .returned (.bool true) ∧ w' = w := by
  go_enter Try.func4, Try.ntmps4
  go_wp2_with fail
  refine wp_loop_rounds 1 ?_
  rw [rounds_succ]
  go_wp2_with fail
  go_ret
  exact ⟨rfl, rfl⟩

set_option maxHeartbeats 1000000 in
theorem small_row (x : Addr) (n c : Nat) (A : Nat → Option Addr) (L C : Nat → Nat) (B : Nat → Nat → Int) (p : Int) (b : Bool) (w : World) (hn : n ≤ maxLen) (h : Pieces w x n A L C B) :
    Calls Try.prog 4 #[.slice (some x) n c, .int .i64 p, .bool b] w fun e w' => SmallPost n L e ∧ w' = w := by
  unfold maxLen at hn
  by_cases c1 : n ≤ 1048576
  · go_enter Try.func4, Try.ntmps4
    go_wp2_with fail
    go_loop [7, 8] (fun z i => ∃ k m : Nat, z = .int .i64 m ∧ i = .int .i64 k ∧ m ≤ 1048576 ∧ k ≤ n ∧ ∀ j, j < k → L j ≤ 1048576) (fun _ i => n - (intOf i).toNat)
    case atStart => exact ⟨0, n, rfl, rfl, c1, Nat.zero_le _, fun j hj => by omega⟩
    case round =>
      obtain ⟨k, m, rfl, rfl, hm, hk, hj⟩ := hrel
      have HJ : Hid _ := hj
      clear hj
      by_cases hlt : k < n
      · have hcell := h.head k hlt
        have hlen := h.len k hlt
        unfold maxLen at hlen
        by_cases hL : L k ≤ 1048576
        · by_cases hS : m + L k ≤ 1048576
          · go_wp2_with fail
            go_round
            case rel =>
              refine ⟨k + 1, m + L k, by go_num, by go_num, hS, by omega, fun j hj => ?_⟩
              by_cases e : j < k
              · exact HJ.out j e
              · obtain rfl : j = k := by omega
                exact hL
            case measure => simp [intOf]; omega
          · go_wp2_with fail
            go_ret
            exact ⟨⟨false, rfl, fun h => by cases h⟩, rfl⟩
        · go_wp2_with fail
          go_ret
          exact ⟨⟨false, rfl, fun h => by cases h⟩, rfl⟩
      · obtain rfl : k = n := by omega
        go_wp2_with fail
        go_ret
        exact ⟨⟨true, rfl, fun _ => HJ.out⟩, rfl⟩
  · go_enter Try.func4, Try.ntmps4
    go_wp2_with fail
    go_ret
    exact ⟨⟨false, rfl, fun h => by cases h⟩, rfl⟩
end Go.Proofs.Qxb6002390a.lc
