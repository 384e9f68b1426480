/-
  THE WALK FOR 'Rows.FnPlainEndStaysOnTheLineSaid': the frame is the guide's (proof-skeleton), the walk is ours.
-/
import Derived.Test.Qxb6001343aRows
import Derived.Test.Qxb6001343aPlain
import Derived.Below
import Derived.WalkKit
import Derived.ProofKit
import Derived.OpenShut
import Derived.ShutString
namespace Go.Proofs.Qxb6001343a.fnPlainEndStaysOnTheLine
open Go.ChangeShapes Go.WideShapes Go.ChangeAt Go.RowKit
open Go.ChangeMaps (open_string shut_string)
set_option linter.unusedVariables false      -- a walk need not use every 'w<i>' (that an integer argument fits its kind)

/-! ### STEP 1: THE WALK -/
open pe in
set_option maxHeartbeats 1000000 in
theorem zzPlainEnd (s : ByteArray) (p : Nat) (flow : Bool) (w : World) (hs : s.size ≤ maxLen) (hp : p ≤ s.size) :
    Calls Try.prog 25 #[.string s, .int .i64 p, .bool flow, .int .i64 (-1), .int .i64 (-1)] w fun e w' => PlainPost s p e ∧ Below w.heap.size w w' := by
  go_enter Try.func25, Try.ntmps25
  go_wp2_with fail
  refine (plainEnd w.heap.size s p flow (.int .i64 0) _ hs hp (by go_simp) (by go_simp) (by go_simp) (by go_simp) (by go_simp) (by go_simp) (by go_simp) (by go_simp)).mono ?_
  rintro e w' ⟨⟨r, E, rfl, hr1, hr2, hr3, hr4, hr5⟩, hB⟩
  have H : Hid _ := hr4
  have H5 : Hid _ := hr5
  clear hr4 hr5
  go_wp2_with fail
  go_ret
  exact ⟨⟨r, E, rfl, hr1, hr2, hr3, H.out, H5.out⟩, ((Below.refl _ _).alloc (Nat.le_refl _) _).trans hB⟩

theorem line_le {s : ByteArray} {p E B : Nat} (h1 : ∀ j, p ≤ j → j < E → pe.at' s j ≠ 10) (h2 : E ≤ s.size) (h3 : p ≤ B) (h4 : B < s.size → pe.at' s B = 10) : E ≤ B :=
  Nat.not_lt.1 fun h => h1 B h3 h (h4 (by omega))

set_option maxHeartbeats 1000000 in
theorem walk (a0 : ByteArray) (a1 : Int) (a2 : Bool) (w0 : a0.size ≤ maxLen) (w1 : (Lit.int .i64 a1).wf = true) (w : World) :
    Calls Try.prog 9 #[.string a0, .int .i64 a1, .bool a2] w fun e w' => e = .returned (.bool true) ∧ Below w.heap.size w w' := by
  by_cases c1 : a0.size ≤ 65536
  · have d1 : decide (a0.size ≤ 1048576) = true := by simp; omega
    by_cases c2 : a1 < 0
    · go_enter Try.func9, Try.ntmps9
      go_wp2_with (go_at_call 24; refine (pe.small a0 a1 a2 _ w0).mono ?_; rintro e w' ⟨rfl, rfl⟩)
      go_ret
      exact ⟨rfl, Below.refl _ _⟩
    · obtain ⟨p, rfl⟩ := Int.eq_ofNat_of_zero_le (Int.not_lt.1 c2)
      clear c2
      by_cases c3 : p ≤ a0.size
      · go_enter Try.func9, Try.ntmps9
        go_wp2_with (go_at_call 24; refine (pe.small a0 p a2 _ w0).mono ?_; rintro e w' ⟨rfl, rfl⟩)
        refine (zzPlainEnd a0 p a2 _ w0 c3).mono ?_
        rintro e w' ⟨⟨r, E, rfl, hr1, hr2, hr3, hr4, hr5⟩, hB⟩
        have H : Hid _ := hr4
        have H5 : Hid _ := hr5
        clear hr4 hr5
        go_wp2_with fail
        refine (pe.b1LineEnd a0 p _ w0 c3).mono ?_
        rintro e w'' ⟨⟨B, rfl, hb1, hb2, hb3⟩, rfl⟩
        have hEB : E ≤ B := line_le H.out hr3 hb1 hb3
        clear hb3
        by_cases c4 : r = p
        · subst c4
          go_wp2_with fail
          go_ret
          exact ⟨rfl, hB⟩
        · have c5 : ((r : Int) == p) = false := beq_eq_false_iff_ne.2 (by omega)
          have c7 : r - 1 < a0.size := by omega
          have c8 : p < r := by omega
          have c6 : pe.spB ((a0[r - 1]'c7).toNat : Nat) = false := by
            rcases H5.out with h | h
            · exact absurd h c4
            · rwa [pe.at'_eq a0 (r - 1) c7] at h
          clear c4
          go_wp2_with (go_at_call 20; refine (pe.isSpaceTab _ _).mono ?_; rintro e w2 ⟨rfl, rfl⟩)
          go_ret
          exact ⟨rfl, hB⟩
      · go_enter Try.func9, Try.ntmps9
        go_wp2_with (go_at_call 24; refine (pe.small a0 p a2 _ w0).mono ?_; rintro e w' ⟨rfl, rfl⟩)
        go_ret
        exact ⟨rfl, Below.refl _ _⟩
  · by_cases d1 : a0.size ≤ 1048576
    · have d2 : decide (a0.size ≤ 1048576) = true := by simpa using d1
      go_enter Try.func9, Try.ntmps9
      go_wp2_with (go_at_call 24; refine (pe.small a0 a1 a2 _ w0).mono ?_; rintro e w' ⟨rfl, rfl⟩)
      go_ret
      exact ⟨rfl, Below.refl _ _⟩
    · have d2 : decide (a0.size ≤ 1048576) = false := by simpa using d1
      go_enter Try.func9, Try.ntmps9
      go_wp2_with (go_at_call 24; refine (pe.small a0 a1 a2 _ w0).mono ?_; rintro e w' ⟨rfl, rfl⟩)
      go_ret
      exact ⟨rfl, Below.refl _ _⟩

end Go.Proofs.Qxb6001343a.fnPlainEndStaysOnTheLine
