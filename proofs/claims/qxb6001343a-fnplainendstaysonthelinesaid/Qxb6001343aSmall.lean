/-
  Contracts of the small functions of 'FnPlainEndStaysOnTheLine': isSpace, isFlowIndicator, b1IsSpaceTab, b1LineEnd, zzBytes.
-/
import Derived.Test.Qxb6001343aRows
import Derived.WalkKit
import Derived.WalkSpells
import Derived.WalkLawsBesides
namespace Go.Proofs.Qxb6001343a.pe
open Go.RowKit

/-- A space or a tab, as a Bool of our own (not reducible: the walk does not take it apart). -/
def spB (c : Int) : Bool := c == 32 || c == 9

theorem isSpace (c : Int) (w : World) :
    Calls Try.prog 31 #[.int .u8 c] w fun e w' => e = .returned (.bool (spB c)) ∧ w' = w := by
  by_cases h : (c == 32) = true
  · go_enter Try.func31, Try.ntmps31
    go_wp2
    go_ret
    exact ⟨by simp [spB, h], rfl⟩
  · have h' : (c == 32) = false := by simpa using h
    go_enter Try.func31, Try.ntmps31
    go_wp2
    go_ret
    exact ⟨by simp [spB, h'], rfl⟩

theorem isSpaceTab (c : Int) (w : World) :
    Calls Try.prog 20 #[.int .u8 c] w fun e w' => e = .returned (.bool (spB c)) ∧ w' = w := by
  by_cases h : (c == 32) = true
  · go_enter Try.func20, Try.ntmps20
    go_wp2
    go_ret
    exact ⟨by simp [spB, h], rfl⟩
  · have h' : (c == 32) = false := by simpa using h
    go_enter Try.func20, Try.ntmps20
    go_wp2
    go_ret
    exact ⟨by simp [spB, h'], rfl⟩

/-- It returns some bool (a name: the walk's simp would take the quantifier apart). -/
def AnyBool (e : Ending) : Prop := ∃ b : Bool, e = .returned (.bool b)

theorem isFlow (c : Int) (w : World) :
    Calls Try.prog 33 #[.int .u8 c] w fun e w' => AnyBool e ∧ w' = w := by
  go_enter Try.func33, Try.ntmps33
  go_wp2
  all_goals
    go_ret
    exact ⟨⟨_, rfl⟩, rfl⟩

theorem small (s : ByteArray) (p : Int) (b : Bool) (w : World) (hs : s.size ≤ maxLen) :
    Calls Try.prog 24 #[.string s, .int .i64 p, .bool b] w fun e w' => e = .returned (.bool (decide (s.size ≤ 1048576))) ∧ w' = w := by
  unfold maxLen at hs
  by_cases h : s.size ≤ 1048576
  · go_enter Try.func24, Try.ntmps24
    go_wp2
    go_ret
    exact ⟨by simp [h], rfl⟩
  · go_enter Try.func24, Try.ntmps24
    go_wp2
    go_ret
    exact ⟨by simp [h], rfl⟩
end Go.Proofs.Qxb6001343a.pe
