/-
  The contract of cloneRunes: nil stays nil; else a row of the call's own with the same numbers.
-/
import Derived.Test.Qxb6001733aBlank
namespace Go.Proofs.Qxb6001733a.sb
open Go.RowKit
set_option linter.unusedVariables false

theorem info21 : (Try.prog.info? 21).map (fun i => (i.zero, i.size, i.bytes)) = some (some (.int .i32 0), 1, 4) := by kernel_rfl

theorem clone_nil (w : World) : Calls Try.prog 9 #[.slice none 0 0] w fun e w' => e = .returned (.slice none 0 0) ∧ w' = w := by
  have he := fun wx => Lib.run_eql_slice_nil (P := Try.prog) wx 22 21 none 0 0 0 0 Try.underlying22
  go_enter Try.func9, Try.ntmps9
  go_wp2
  go_ret
  exact ⟨rfl, rfl⟩

/-- What is laid so far: the first k numbers, zeros behind. -/
def laidTo (zs : List Int) (n k : Nat) : List Value := (List.range n).map fun j => if j < k then .int .i32 (el zs j) else .int .i32 0

theorem laidTo_length (zs : List Int) (n k : Nat) : (laidTo zs n k).length = n := by simp [laidTo]

theorem laidTo_get (zs : List Int) (n k j : Nat) (h : j < n) : (laidTo zs n k)[j]? = some (if j < k then .int .i32 (el zs j) else .int .i32 0) := by
  simp [laidTo, h]

theorem laidTo_succ (zs : List Int) (n k : Nat) (h : k < n) : (laidTo zs n k).set k (.int .i32 (el zs k)) = laidTo zs n (k + 1) := by
  apply List.ext_getElem?
  intro j
  rw [List.getElem?_set]
  by_cases hj : j < n
  · rw [laidTo_get _ _ _ _ hj, laidTo_get _ _ _ _ hj]
    by_cases e : k = j
    · subst e
      rw [if_pos rfl, if_pos (by rw [laidTo_length]; exact h), if_pos (by omega)]
    · rw [if_neg e]
      congr 1
      by_cases l : j < k
      · rw [if_pos l, if_pos (by omega)]
      · rw [if_neg l, if_neg (by omega)]
  · rw [if_neg (by omega)]
    rw [List.getElem?_eq_none (by rw [laidTo_length]; omega), List.getElem?_eq_none (by rw [laidTo_length]; omega)]

theorem made_laidTo (zs : List Int) (n : Nat) : (madeCells #[Value.int .i32 0] n).toList = laidTo zs n 0 := by
  simp [madeCells, laidTo, Nat.mod_one]

/-- What cloneRunes hands back of a row: a new row with the same numbers. -/
def ClonePost (zs : List Int) (n : Nat) (w : World) (e : Ending) (w' : World) : Prop :=
  e = .returned (.slice (some ⟨w.heap.size, 0, none⟩) n n) ∧ w.heap.size < w'.heap.size ∧ (∀ i, i < n → w'.cell? ⟨w.heap.size, i, none⟩ = some (.int .i32 (el zs i))) ∧ Below w.heap.size w w'

theorem block_of_cell {w : World} {a : Addr} {v : Value} (h : w.cell? a = some v) : a.block < w.heap.size := by
  rcases Nat.lt_or_ge a.block w.heap.size with h' | h'
  · exact h'
  · simp [World.cell?, Array.getElem?_eq_none h'] at h

theorem size_of_own {w : World} {B g n c : Nat} {xs : List Value} (h : w.ownsRow B 21 1 (.slice (some ⟨g, 0, none⟩) n c) n xs) : g < w.heap.size := by
  rcases h.2 with ⟨h', _⟩ | ⟨g', cap', cur, h', _, hg, _⟩
  · simp at h'
  · simp only [Value.slice.injEq, Option.some.injEq, Addr.mk.injEq, and_true, true_and] at h'
    obtain ⟨rfl, rfl⟩ := h'
    rcases Nat.lt_or_ge g w.heap.size with h' | h'
    · exact h'
    · rw [Array.getElem?_eq_none h'] at hg
      cases hg

set_option maxHeartbeats 1000000 in
theorem clone_row (x : Addr) (n c : Nat) (zs : List Int) (w : World) (hn : n ≤ 262144) (hc : ∀ i, i < n → w.cell? (x.add i) = some (.int .i32 (el zs i))) :
    Calls Try.prog 9 #[.slice (some x) n c] w fun e w' => ClonePost zs n w e w' := by
  have he := fun wx => Lib.run_eql_slice_nil (P := Try.prog) wx 22 21 (some x) n c 0 0 Try.underlying22
  obtain ⟨i0, hi, hz0, hz1, hz2⟩ := info_parts info21
  have H : Hid _ := hc
  clear hc
  go_enter Try.func9, Try.ntmps9
  go_wp2_with (at_make; refine wpList_make_full _ rfl _ _ 22 rfl w.heap.size 21 i0 (.int .i32 0) 1 Try.underlying22 hi hz0 hz1 _ _ _ _ n rfl rfl rfl rfl (by rw [hz2]; omega) (by unfold maxLen; omega) (Nat.le_refl _) ?_)
  intro w1 hown hgrow
  rw [made_laidTo zs n] at hown
  have hB1 : Below w.heap.size w w1 := (Below.refl _ _).grown hgrow (Nat.le_refl _) (fun k h => by cases h)
  clear hgrow he hi hz0 hz1 hz2
  have HO : Hid _ := hown
  clear hown
  go_wp2_with fail
  go_loopw [4] (fun i wr => ∃ k : Nat, i = .int .i64 k ∧ k ≤ n ∧ wr.ownsRow w.heap.size 21 1 (.slice (some ⟨w.heap.size, 0, none⟩) n n) n (laidTo zs n k) ∧ Below w.heap.size w wr) (fun i _ => n - (intOf i).toNat)
  case atStart => exact ⟨0, rfl, Nat.zero_le _, HO.out, hB1⟩
  case round =>
    obtain ⟨k, rfl, hk, hown, hB⟩ := hrel
    clear HO hB1
    by_cases hlt : k < n
    · have hsrc : wr.cell? (x.add k) = some (.int .i32 (el zs k)) := (hB.cell (block_of_cell (H.out k hlt))).trans (H.out k hlt)
      have hdst : wr.cell? ⟨w.heap.size, k, none⟩ = some (.int .i32 0) := by rw [hown.cellAt k (by omega), laidTo_get _ _ _ _ hlt, if_neg (by omega)]
      have hfr : wr.frozen? ⟨w.heap.size, k, none⟩ = false := hown.frozenAt k
      have hst := hown.stored k (.int .i32 (el zs k))
      rw [laidTo_succ zs n k hlt] at hst
      have HS : Hid _ := hst
      have HB : Hid _ := hB
      clear hst hown hB
      go_wp2_with fail
      go_roundw
      case rel => exact ⟨k + 1, by go_num, by omega, HS.out.1, HB.out.setCell (Nat.le_refl _) _⟩
      case measure => simp [intOf]; omega
    · obtain rfl : k = n := by omega
      go_wp2_with fail
      go_ret
      refine ⟨rfl, size_of_own hown, fun i hi => ?_, hB⟩
      rw [hown.cellAt i (by omega), laidTo_get _ _ _ _ hi, if_pos hi]
end Go.Proofs.Qxb6001733a.sb
