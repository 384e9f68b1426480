/-
  The contract of strings.ContainsRune at the cutset of a space and a tab, whatever the rune.
-/
import Derived.Test.Qxb6001733aRows
import Derived.Test.Qxb6001733aShelf
import Derived.WalkKit
import Derived.WalkSpells
import Derived.WalkLawsBesides
import Derived.Laws.RangeString
import Derived.Lib.RuneBytes
import Derived.Deep.QuietTactic
import Derived.BigQuiet
import Derived.Outline
import Derived.WalkMore
namespace Go.Proofs.Qxb6001733a.sb
open Go.RowKit

/-- A space or a tab (a name: the walk does not take it apart). -/
def blB (c : Int) : Bool := c == 32 || c == 9

abbrev cut : ByteArray := ⟨#[32, 9]⟩

set_option maxHeartbeats 1000000 in
set_option maxRecDepth 100000 in
theorem indexRune_bad (r : Int) (w : World) (h : r < 0 ∨ (55296 ≤ r ∧ r ≤ 57343) ∨ 1114111 < r) :
    Calls Try.prog 24 #[.string cut, .int .i32 r] w fun e w' => e = .returned (.int .i64 (-1)) ∧ w' = w := by
  have hv : Lib.validRune r = false := by unfold Lib.validRune; simp; omega
  have h5 : (r == 65533) = false := beq_eq_false_iff_ne.2 (by omega)
  rcases h with h | h | h
  all_goals
    go_enter Try.func24, Try.ntmps24
    go_wp2_with (go_at_call 26; refine (Try.utf8_ValidRune _ _).mono ?_; rintro e w' ⟨rfl, rfl⟩)
    go_ret
    exact ⟨rfl, rfl⟩

/-- Two to four bytes; where there are two the second is no ASCII byte. -/
def Shape (E : ByteArray) : Prop := 2 ≤ E.size ∧ E.size ≤ 4 ∧ ∀ h1 : 1 < E.size, E.size = 2 → 128 ≤ (E[1]'h1).toNat

theorem shape_ite {c : Prop} [Decidable c] {a b : ByteArray} (h1 : c → Shape a) (h2 : ¬ c → Shape b) : Shape (if c then a else b) := by
  split
  · exact h1 (by assumption)
  · exact h2 (by assumption)

theorem enc_shape (r : Int) (h : 128 ≤ r) : Shape (Utf8.encode r) := by
  have hc : 128 ≤ (if Utf8.valid r then r.toNat else Utf8.runeError) := by
    split
    · omega
    · decide
  unfold Utf8.encode
  generalize (if Utf8.valid r then r.toNat else Utf8.runeError) = c at hc
  refine shape_ite (fun h => absurd h (by omega)) fun _ => shape_ite (fun _ => ?_) fun _ => shape_ite (fun _ => ?_) fun _ => ?_
  · refine ⟨by show 2 ≤ 2; omega, by show 2 ≤ 4; omega, fun h1 _ => ?_⟩
    show 128 ≤ (UInt8.ofNat (0x80 + c % 64)).toNat
    simp
    omega
  · exact ⟨by show 2 ≤ 3; omega, by show 3 ≤ 4; omega, fun _ h => absurd h (by show ¬ 3 = 2; omega)⟩
  · exact ⟨by show 2 ≤ 4; omega, by show 4 ≤ 4; omega, fun _ h => absurd h (by show ¬ 4 = 2; omega)⟩

set_option maxHeartbeats 1000000 in
set_option maxRecDepth 100000 in
theorem indexRune_long (r : Int) (E : ByteArray) (w : World) (h0 : 128 ≤ r) (hE : Utf8.encode r = E) (h2 : 3 ≤ E.size) (h4 : E.size ≤ 4) (hv : Lib.validRune r = true) (h5 : (r == 65533) = false) :
    Calls Try.prog 24 #[.string cut, .int .i32 r] w fun e w' => e = .returned (.int .i64 (-1)) ∧ w' = w := by
  go_enter Try.func24, Try.ntmps24
  go_wp2_with (go_at_call 26; refine (Try.utf8_ValidRune _ _).mono ?_; rintro e w' ⟨rfl, rfl⟩)
  go_step3
  go_wp2_with fail
  refine wp_loop_rounds 1 ?_
  rw [rounds_succ]
  go_wp2_with fail
  rw [Exit.noGoto_ret]
  go_ret
  exact ⟨rfl, rfl⟩

theorem indexNone (c : Int) (w : World) : Calls Try.prog 25 #[.string (cut.extract 2 cut.size), .int .u8 c] w fun e w' => e = .returned (.int .i64 (-1)) ∧ w' = w := Try.strings_IndexByte _ _ _

set_option maxHeartbeats 1000000 in
set_option maxRecDepth 100000 in
theorem indexRune_two (r : Int) (E : ByteArray) (w : World) (h0 : 128 ≤ r) (hE : Utf8.encode r = E) (h2 : E.size = 2) (hb : 128 ≤ (E[1]'(by omega)).toNat) (hv : Lib.validRune r = true) (h5 : (r == 65533) = false) :
    Calls Try.prog 24 #[.string cut, .int .i32 r] w fun e w' => e = .returned (.int .i64 (-1)) ∧ Below w.heap.size w w' := by
  have hn : (((cut[1].toNat : Nat) : Int) != (((E[1]'(by omega)).toNat : Nat) : Int)) = true := by
    rw [bne_iff_ne]
    show ((9 : Nat) : Int) ≠ _
    omega
  go_enter Try.func24, Try.ntmps24
  go_wp2_with (go_at_call 26; refine (Try.utf8_ValidRune _ _).mono ?_; rintro e w' ⟨rfl, rfl⟩)
  go_step3
  go_wp2_with fail
  refine wp_loop_rounds 1 ?_
  rw [rounds_succ]
  go_wp2_with fail
  go_step3
  go_wp2_with fail
  go_quiet (fail)
  go_wp2_with fail
  have HB : Below w'.heap.size w' (w'.drewN nq) := below_drewN (Below.refl _ _) _
  generalize w'.drewN nq = W1 at *
  go_quiet ((go_at_call 25; exact Calls.quiet_of_same (indexNone _ _)))
  go_wp2_with fail
  rw [Exit.noGoto_ret]
  go_wp2_with fail
  rw [Exit.noGoto_ret]
  go_ret
  exact ⟨rfl, below_drewN HB _⟩

set_option maxHeartbeats 1000000 in
set_option maxRecDepth 100000 in
theorem indexRune_error (w : World) :
    Calls Try.prog 24 #[.string cut, .int .i32 65533] w fun e w' => e = .returned (.int .i64 (-1)) ∧ Below w.heap.size w w' := by
  have n0 := fun ty => run_next_ascii (P := Try.prog) w cut 0 ty (by decide) (by decide)
  have n1 := fun ty => run_next_ascii (P := Try.prog) w cut 1 ty (by decide) (by decide)
  have n2 := fun ty => run_next_end (P := Try.prog) w cut 2 ty (by decide)
  go_enter Try.func24, Try.ntmps24
  go_wp2_with fail
  refine wp_loop_rounds 3 ?_
  rw [rounds_succ]
  go_wp2_with fail
  rw [rounds_succ]
  go_wp2_with fail
  rw [rounds_succ]
  go_wp2_with fail
  go_ret
  exact ⟨rfl, (Below.refl _ _).alloc (Nat.le_refl _) _⟩

theorem ascii_bl (r : Int) (h0 : 0 ≤ r) (h1 : r < 128) : decide (0 ≤ Lib.indexByte cut.data.toList r.toNat.toUInt8) = blB r := by
  obtain ⟨n, rfl⟩ := Int.eq_ofNat_of_zero_le h0
  have hn : n < 128 := by omega
  clear h0 h1
  revert n
  decide

theorem indexRune_none (r : Int) (w : World) (ha : ¬ (0 ≤ r ∧ r < 128)) :
    Calls Try.prog 24 #[.string cut, .int .i32 r] w fun e w' => e = .returned (.int .i64 (-1)) ∧ Below w.heap.size w w' := by
  by_cases hb : r < 0 ∨ (55296 ≤ r ∧ r ≤ 57343) ∨ 1114111 < r
  · exact (indexRune_bad r w hb).mono fun e w' ⟨h1, h2⟩ => ⟨h1, by rw [h2]; exact Below.refl _ _⟩
  · by_cases he : r = 65533
    · subst he
      exact indexRune_error w
    · have hv : Lib.validRune r = true := by unfold Lib.validRune; simp; omega
      have h5 : (r == 65533) = false := beq_eq_false_iff_ne.2 he
      obtain ⟨s1, s2, s3⟩ := enc_shape r (by omega)
      by_cases h2 : (Utf8.encode r).size = 2
      · exact indexRune_two r _ w (by omega) rfl h2 (s3 (by omega) h2) hv h5
      · exact (indexRune_long r _ w (by omega) rfl (by omega) s2 hv h5).mono fun e w' ⟨h1, h2⟩ => ⟨h1, by rw [h2]; exact Below.refl _ _⟩

/-- strings.ContainsRune at the cutset of a space and a tab: is the rune one of the two? Whatever the rune; nothing old turns. -/
theorem containsRune (r : Int) (w : World) : Calls Try.prog 23 #[.string cut, .int .i32 r] w fun e w' => e = .returned (.bool (blB r)) ∧ Below w.heap.size w w' := by
  by_cases ha : 0 ≤ r ∧ r < 128
  · rw [← ascii_bl r ha.1 ha.2]
    exact (Try.strings_ContainsRune_ascii cut r w ha.1 ha.2).mono fun e w' ⟨h1, h2⟩ => ⟨h1, by rw [h2]; exact Below.refl _ _⟩
  · have hbl : blB r = false := by unfold blB; simp; omega
    rw [hbl]
    clear hbl
    go_enter Try.func23, Try.ntmps23
    go_wp2_with fail
    refine (indexRune_none r w ha).mono ?_
    rintro e w' ⟨rfl, hB⟩
    go_wp2_with fail
    go_ret
    exact ⟨rfl, hB⟩
end Go.Proofs.Qxb6001733a.sb
