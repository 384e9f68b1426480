/-
  THE WALK FOR 'Rows.FnSkipBlanksAgreesWithTrimLeftSaid'.
-/
import Derived.Test.Qxb6001733aRows
import Derived.Test.Qxb6001733aClone
import Derived.WalkKit
import Derived.ProofKit
import Derived.OpenShut
import Derived.ShutString
import Derived.ChangeOld
import Derived.Below
namespace Go.Proofs.Qxb6001733a.fnSkipBlanksAgreesWithTrimLeft
open Go.ChangeShapes Go.WideShapes Go.ChangeAt Go.RowKit
open Go.ChangeMaps (open_string shut_string)
set_option linter.unusedVariables false

/-- WHAT THE WALK IS TOLD OF A SLICE OF INTEGERS THAT CAME IN: it is nil; or it leads to a row of 'cap' cells, the numbers 'zs' (the first 'len' are its elements, the rest its spare room), each fitting its kind. -/
def IsRow (k : IntKind) (w : World) (a : Option Addr) (len cap : Nat) (zs : List Int) : Prop :=
  (a = none ∧ len = 0 ∧ cap = 0 ∧ zs = []) ∨
  ∃ x, a = some x ∧ len ≤ cap ∧ cap ≤ maxLen ∧ zs.length = cap ∧ (∀ i, i < zs.length → w.cell? (x.add i) = some (.int k (zs.getD i 0))) ∧ ∀ n ∈ zs, (Lit.int k n).wf = true

/-! ### STEP 1: THE WALK -/
theorem skip_self (zs : List Int) (n p r : Nat) (h : n ≤ p) (k : sb.Skip zs n p r) : r = p :=
  (sb.Skip.unique (r := p) ⟨Nat.le_refl _, fun j a b => by omega, fun a => by omega⟩ k).symm

set_option maxHeartbeats 1000000 in
theorem walk_nil (a1 : Int) (w : World) (w1 : (Lit.int .i64 a1).wf = true) :
    Calls Try.prog 5 #[.slice none 0 0, .int .i64 a1] w fun e w' => e = .returned (.bool true) ∧ Below w.heap.size w w' := by
  have b1 := bounds_i64 w1
  by_cases c2 : a1 < 0
  · go_enter Try.func5, Try.ntmps5
    go_wp2_with (go_at_call 13; refine (sb.small none 0 0 a1 _ (Nat.zero_le _)).mono ?_; rintro e w' ⟨rfl, rfl⟩)
    go_ret
    exact ⟨rfl, Below.refl _ _⟩
  · obtain ⟨p, rfl⟩ := Int.eq_ofNat_of_zero_le (Int.not_lt.1 c2)
    clear c2
    go_enter Try.func5, Try.ntmps5
    go_wp2_with (go_at_call 13; refine (sb.small none 0 0 p _ (Nat.zero_le _)).mono ?_; rintro e w' ⟨rfl, rfl⟩)
    refine (sb.clone_nil _).mono ?_
    rintro e w1' ⟨rfl, rfl⟩
    go_wp2_with fail
    refine (sb.zskip_nil p _).mono ?_
    rintro e w2' ⟨⟨r, rfl, hr⟩, rfl⟩
    obtain rfl := skip_self _ _ _ _ (Nat.zero_le _) hr
    clear hr
    by_cases c3 : 0 < r
    · go_wp2_with fail
      go_ret
      exact ⟨by simp, Below.refl _ _⟩
    · obtain rfl : r = 0 := by omega
      go_wp2_with fail
      refine (sb.ztrim _ 0 0 [] _ (sb.trim_none none 0 0 0 [] _ rfl)).mono ?_
      rintro e w3 ⟨⟨k, c, a, rfl, hk, _⟩, hB⟩
      obtain rfl : k = 0 := by omega
      go_wp2_with fail
      go_ret
      exact ⟨rfl, hB⟩

set_option maxHeartbeats 2000000 in
theorem walk_row (x : Addr) (n c : Nat) (zs : List Int) (a1 : Int) (w : World) (hn : n ≤ maxLen) (hc : ∀ i, i < n → w.cell? (x.add i) = some (.int .i32 (sb.el zs i))) (w1 : (Lit.int .i64 a1).wf = true) :
    Calls Try.prog 5 #[.slice (some x) n c, .int .i64 a1] w fun e w' => e = .returned (.bool true) ∧ Below w.heap.size w w' := by
  have b1 := bounds_i64 w1
  have HC : Hid _ := hc
  clear hc
  by_cases c1 : n ≤ 262144
  · have d1 : decide (n ≤ 1048576) = true := by simp; omega
    by_cases c2 : a1 < 0
    · go_enter Try.func5, Try.ntmps5
      go_wp2_with (go_at_call 13; refine (sb.small (some x) n c a1 _ hn).mono ?_; rintro e w' ⟨rfl, rfl⟩)
      go_ret
      exact ⟨rfl, Below.refl _ _⟩
    · obtain ⟨p, rfl⟩ := Int.eq_ofNat_of_zero_le (Int.not_lt.1 c2)
      clear c2
      go_enter Try.func5, Try.ntmps5
      go_wp2_with (go_at_call 13; refine (sb.small (some x) n c p _ hn).mono ?_; rintro e w' ⟨rfl, hw⟩; rw [hw]; clear hw)
      refine (sb.clone_row x n c zs w c1 HC.out).mono ?_
      rintro e w1' ⟨rfl, hsz, hcell, hB1⟩
      have HC1 : Hid _ := hcell
      clear hcell HC
      go_wp2_with fail
      refine (sb.zskip_row w.heap.size n n p zs w1' c1 (by omega) HC1.out).mono ?_
      rintro e w2' ⟨⟨r, rfl, hr⟩, hw⟩
      rw [hw]
      clear hw
      by_cases c3 : n < p
      · obtain rfl := skip_self _ _ _ _ (by omega) hr
        clear hr
        go_wp2_with fail
        go_ret
        exact ⟨by simp, hB1⟩
      · have HR : Hid _ := hr
        clear hr
        by_cases c4 : p = n
        · obtain rfl := c4
          go_wp2_with fail
          refine (sb.ztrim _ p p zs _ (sb.trim_none _ _ _ _ _ _ rfl)).mono ?_
          rintro e w3 ⟨⟨k, c', a', rfl, hk, hs⟩, hB2⟩
          obtain rfl := sb.Skip.unique HR.out hs
          clear hs HR
          have e : ((r : Int) == (p : Int) - ((p - r : Nat) : Int)) = true := beq_iff_eq.2 (by omega)
          go_wp2_with fail
          go_ret
          exact ⟨by simp, hB1.trans (hB2.mono hB1.size)⟩
        · go_wp2_with fail
          refine (sb.ztrim _ n p zs _ (sb.trim_row w.heap.size n p zs w1' hsz c1 (by omega) HC1.out)).mono ?_
          rintro e w3 ⟨⟨k, c', a', rfl, hk, hs⟩, hB2⟩
          obtain rfl := sb.Skip.unique HR.out hs
          clear hs HR
          have e : ((r : Int) == (n : Int) - ((n - r : Nat) : Int)) = true := beq_iff_eq.2 (by omega)
          go_wp2_with fail
          go_ret
          exact ⟨by simp, hB1.trans (hB2.mono hB1.size)⟩
  · by_cases d1 : n ≤ 1048576
    · have d2 : decide (n ≤ 1048576) = true := by simpa using d1
      go_enter Try.func5, Try.ntmps5
      go_wp2_with (go_at_call 13; refine (sb.small (some x) n c a1 _ hn).mono ?_; rintro e w' ⟨rfl, rfl⟩)
      go_ret
      exact ⟨rfl, Below.refl _ _⟩
    · have d2 : decide (n ≤ 1048576) = false := by simpa using d1
      go_enter Try.func5, Try.ntmps5
      go_wp2_with (go_at_call 13; refine (sb.small (some x) n c a1 _ hn).mono ?_; rintro e w' ⟨rfl, rfl⟩)
      go_ret
      exact ⟨rfl, Below.refl _ _⟩

theorem walk (a0 : Option Addr) (len0 cap0 : Nat) (z0 : List Int) (a1 : Int) (w : World) (w0 : IsRow .i32 w a0 len0 cap0 z0) (w1 : (Lit.int .i64 a1).wf = true) :
    Calls Try.prog 5 #[.slice a0 len0 cap0, .int .i64 a1] w fun e w' => e = .returned (.bool true) ∧ Below w.heap.size w w' := by
  rcases w0 with ⟨rfl, rfl, rfl, rfl⟩ | ⟨x, rfl, hlc, hcm, hz, hcell, _⟩
  · exact walk_nil a1 w w1
  · exact walk_row x len0 cap0 z0 a1 w (by omega) (fun i hi => hcell i (by omega)) w1
end Go.Proofs.Qxb6001733a.fnSkipBlanksAgreesWithTrimLeft
