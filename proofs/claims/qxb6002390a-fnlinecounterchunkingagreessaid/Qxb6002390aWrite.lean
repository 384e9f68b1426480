/-
  Contracts of ZZLineCounterAt, Write, ZZLineCounterWrite, ZZLineCounterState.
-/
import Derived.Test.Qxb6002390aRows
import Derived.Test.Qxb6002390aShelf
import Derived.Test.Qxb6002390aPlain
import Derived.WalkKit
import Derived.WalkSpells
import Derived.WalkLawsBesides
import Derived.Lib.SlBytesConst
import Derived.Deep.QuietTactic
import Derived.BigQuiet
import Derived.BigRegion
import Derived.Deep.RegionWith
import Derived.Outline
namespace Go.Proofs.Qxb6002390a.lc
open Go.RowKit
set_option linter.unusedVariables false

/-- The counter at block cb holds 'lines' and 'ended', and may be written. -/
structure Ctr (w : World) (cb : Nat) (lines : Int) (ended : Bool) : Prop where
  c0 : w.cell? ⟨cb, 0, none⟩ = some (.int .i64 lines)
  c1 : w.cell? ⟨cb, 1, none⟩ = some (.bool ended)
  f0 : w.frozen? ⟨cb, 0, none⟩ = false
  f1 : w.frozen? ⟨cb, 1, none⟩ = false

theorem ctrAt (lines : Int) (ended : Bool) (w : World) :
    Calls Try.prog 5 #[.int .i64 lines, .bool ended] w fun e w' => e = .returned (.pointer (some ⟨w.heap.size, 0, none⟩)) ∧ w' = w.alloc (.cells #[.int .i64 lines, .bool ended] 34) := by
  go_enter Try.func5, Try.ntmps5
  go_wp2
  go_ret
  exact ⟨rfl, rfl⟩

theorem state (cb : Nat) (lines : Int) (ended : Bool) (w : World) (c0 : w.cell? ⟨cb, 0, none⟩ = some (.int .i64 lines)) (c1 : w.cell? ⟨cb, 1, none⟩ = some (.bool ended)) :
    Calls Try.prog 7 #[.pointer (some ⟨cb, 0, none⟩)] w fun e w' => e = .returned (.tuple #[.int .i64 lines, .bool ended]) ∧ ∃ n, w' = w.drewN n := by
  go_enter Try.func7, Try.ntmps7
  go_wp2_with fail
  go_quiet (fail)
  go_wp2_with fail
  go_ret2
  exact ⟨rfl, _, rfl⟩

/-- What Write answers and leaves. -/
def WritePost (cb n : Nat) (xs : List Int) (lines : Int) (ended : Bool) (w : World) (e : Ending) (w' : World) : Prop :=
  e = .returned (.tuple #[.int .i64 n, .nilIface]) ∧ Ctr w' cb (lines + cnt xs) (lastOf ended xs) ∧ w.grownBy w' (some cb)

theorem count_row (g n c b2 d : Nat) (xs : List Int) (W : World) (hx : xs.length = n) (hb : ∀ x ∈ xs, 0 ≤ x ∧ x < 256) (hc : ∀ i, i < n → W.cell? ⟨g, i, none⟩ = some (.int .u8 (xs.getD i 0))) (hc2 : W.cell? ⟨b2, 0, none⟩ = some (.int .u8 10)) :
    Calls Try.prog 9 #[.slice (some ⟨g, 0, none⟩) n c, .slice (some ⟨b2, 0, none⟩) 1 d] W fun e w' => e = .returned (.int .i64 (cnt xs)) ∧ w' = W := by
  rw [← cnt_count xs hb]
  exact Try.bytes_Count_one g 0 n c b2 0 d xs 10 W hx (fun i hi => by rw [Nat.zero_add]; exact hc i hi) hc2

theorem count_nil (b2 d : Nat) (W : World) (hc2 : W.cell? ⟨b2, 0, none⟩ = some (.int .u8 10)) :
    Calls Try.prog 9 #[.slice none 0 0, .slice (some ⟨b2, 0, none⟩) 1 d] W fun e w' => e = .returned (.int .i64 0) ∧ w' = W := Try.bytes_Count_one_nil b2 0 d 10 W hc2

theorem conv (w : World) : Sem.run Try.prog (convert 24 24 (.slice (some ⟨w.heap.size, 0, none⟩) 1 1)) (w.alloc (.cells #[.int .u8 10] 5)).drew = .ok (.slice (some ⟨w.heap.size, 0, none⟩) 1 1) (w.alloc (.cells #[.int .u8 10] 5 (1, 2))).drew :=
  Lib.run_convert_bytes_const (P := Try.prog) w.drew 24 5 #[.int .u8 10] 1 1 Try.underlying24 Try.underlying5

theorem sep_cell (w : World) : (w.alloc (.cells #[.int .u8 10] 5 (1, 2))).cell? ⟨w.heap.size, 0, none⟩ = some (.int .u8 10) := World.cell?_alloc_mark ..

theorem grown1 (w : World) (cb : Nat) (u : Value) (o : Obj) : w.grownBy ((w.setCell ⟨cb, 0, none⟩ u).alloc o).drew (some cb) :=
  ⟨rfl, rfl, rfl, by simp [World.setCell], fun k hk hne => by
    show ((w.setCell ⟨cb, 0, none⟩ u).alloc o).heap[k]? = _
    have hk' : k ≠ cb := fun h => hne (by rw [h])
    rw [Below.heap_alloc _ _ _ (by simpa [World.setCell] using hk), Below.heap_setCell _ _ _ _ hk']⟩

theorem grown2 (w : World) (cb : Nat) (u v : Value) (o : Obj) : w.grownBy (((w.setCell ⟨cb, 0, none⟩ u).setCell ⟨cb, 1, none⟩ v).alloc o).drew (some cb) :=
  ⟨rfl, rfl, rfl, by simp [World.setCell], fun k hk hne => by
    show (((w.setCell ⟨cb, 0, none⟩ u).setCell ⟨cb, 1, none⟩ v).alloc o).heap[k]? = _
    have hk' : k ≠ cb := fun h => hne (by rw [h])
    rw [Below.heap_alloc _ _ _ (by simpa [World.setCell] using hk), Below.heap_setCell _ _ _ _ hk', Below.heap_setCell _ _ _ _ hk']⟩

set_option maxHeartbeats 1000000 in
theorem write_row (cb g n c : Nat) (xs : List Int) (lines : Int) (ended : Bool) (w : World) (h : Ctr w cb lines ended) (hcb : cb ≠ g) (hx : xs.length = n) (hn : n ≤ 1048576) (hl : 0 ≤ lines) (hl2 : lines ≤ 4294967296)
    (hb : ∀ x ∈ xs, 0 ≤ x ∧ x < 256) (hc : ∀ i, i < n → w.cell? ⟨g, i, none⟩ = some (.int .u8 (xs.getD i 0))) :
    Calls Try.prog 8 #[.pointer (some ⟨cb, 0, none⟩), .slice (some ⟨g, 0, none⟩) n c] w fun e w' => WritePost cb n xs lines ended w e w' := by
  have kd := conv
  have hq := cnt_le xs
  have hcA : Hid (∀ (o : Obj) i, i < n → (w.alloc o).cell? ⟨g, i, none⟩ = some (.int .u8 (xs.getD i 0))) := fun o i hi => (World.cell?_alloc_lt w o ⟨g, i, none⟩ (World.block_lt_of_cell? w _ (hc i hi))).trans (hc i hi)
  obtain ⟨c0, c1, f0, f1⟩ := h
  have hlt : cb < w.heap.size := World.block_lt_of_cell? w _ c0
  go_enter Try.func8, Try.ntmps8
  go_wp2_with fail
  go_region_with (go_at_call 9; refine (count_row g n c _ _ xs _ hx hb (by exact fun i hi => hcA.out _ i hi) (by exact sep_cell w)).mono ?_; rintro e w' ⟨rfl, rfl⟩)
  all_goals
    have hq2 : cnt xs ≤ 1048576 := by omega
    by_cases hz : 0 < n
    · have hlast : ∀ v, (w.setCell ⟨cb, 0, none⟩ v).cell? ⟨g, n - 1, none⟩ = some (.int .u8 (xs.getD (n - 1) 0)) := fun v => by
        rw [← hc (n - 1) (by omega)]
        exact World.cell?_of_block (w := w) (Below.heap_setCell w _ v g (by simpa using Ne.symm hcb))
      have hg : g < w.heap.size := World.block_lt_of_cell? w _ (hc 0 hz)
      have HZ : Hid (lastOf ended xs = (xs.getD (n - 1) 0 == 10)) := lastOf_some ended xs n hx hz
      generalize xs.getD (n - 1) 0 = z at hlast HZ
      go_wp2_with fail
      go_ret2
      refine ⟨rfl, ?_, ?_⟩
      · rw [HZ.out]
        exact ⟨by go_simp, by go_simp, by go_simp, by go_simp⟩
      · exact grown2 _ _ _ _ _
    · obtain rfl : n = 0 := by omega
      obtain rfl : xs = [] := List.eq_nil_of_length_eq_zero hx
      go_wp2_with fail
      go_ret2
      refine ⟨rfl, ?_, ?_⟩
      · rw [show lastOf ended [] = ended from rfl]
        exact ⟨by go_simp, by go_simp, by go_simp, by go_simp⟩
      · exact grown1 _ _ _ _

set_option maxHeartbeats 1000000 in
theorem write_nil (cb : Nat) (lines : Int) (ended : Bool) (w : World) (h : Ctr w cb lines ended) (hl : 0 ≤ lines) (hl2 : lines ≤ 4294967296) :
    Calls Try.prog 8 #[.pointer (some ⟨cb, 0, none⟩), .slice none 0 0] w fun e w' => WritePost cb 0 [] lines ended w e w' := by
  have kd := conv
  obtain ⟨c0, c1, f0, f1⟩ := h
  have hlt : cb < w.heap.size := World.block_lt_of_cell? w _ c0
  go_enter Try.func8, Try.ntmps8
  go_wp2_with fail
  go_region_with (go_at_call 9; refine (count_nil _ _ _ (by exact sep_cell w)).mono ?_; rintro e w' ⟨rfl, rfl⟩)
  all_goals
    go_wp2_with fail
    go_ret2
    refine ⟨rfl, ?_, ?_⟩
    · rw [show lastOf ended [] = ended from rfl, show (cnt [] : Int) = 0 from rfl]
      exact ⟨by go_simp, by go_simp, by go_simp, by go_simp⟩
    · exact grown1 _ _ _ _

/-- The package's door: the same. -/
theorem zwrite (cb n : Nat) (v : Value) (xs : List Int) (lines : Int) (ended : Bool) (w : World)
    (h : Calls Try.prog 8 #[.pointer (some ⟨cb, 0, none⟩), v] w fun e w' => WritePost cb n xs lines ended w e w') :
    Calls Try.prog 6 #[.pointer (some ⟨cb, 0, none⟩), v] w fun e w' => WritePost cb n xs lines ended w e w' := by
  go_enter Try.func6, Try.ntmps6
  go_wp2_with fail
  refine h.mono ?_
  rintro e w' ⟨rfl, h1, h2⟩
  have H1 : Hid (Ctr w' cb (lines + cnt xs) (lastOf ended xs)) := h1
  clear h1
  go_wp2_with fail
  go_ret2
  exact ⟨rfl, H1.out, h2⟩
end Go.Proofs.Qxb6002390a.lc
