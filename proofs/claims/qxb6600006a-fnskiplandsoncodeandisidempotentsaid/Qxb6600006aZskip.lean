/-
  The contract of ZZSkip over a text that is not nil.
-/
import Derived.Test.Qxb6600006aSkip
namespace Go.Proofs.Qxb6600006a.sk
open Go.RowKit
set_option linter.unusedVariables false

/-- The text in memory, as the law has it: N bytes at block g. -/
structure Tx (w : World) (g N : Nat) (T : Nat → Int) (m : Int) : Prop where
  glt : g < w.heap.size
  nle : N ≤ 1048576
  byte : ByteT T N
  cell : ∀ j, j < N → w.cell? ⟨g, j, none⟩ = some (.int .u8 (T j))
  max : w.cell? ⟨0, 0, none⟩ = some (.int .i64 m)

theorem Tx.below {w w' : World} {g N : Nat} {T : Nat → Int} {m : Int} (h : Tx w g N T m) (hb : Below w.heap.size w w') : Tx w' g N T m where
  glt := Nat.lt_of_lt_of_le h.glt hb.size
  nle := h.nle
  byte := h.byte
  cell j hj := (hb.cell (p := ⟨g, j, none⟩) h.glt).trans (h.cell j hj)
  max := (hb.cell (p := ⟨0, 0, none⟩) (World.block_lt_of_cell? w _ h.max)).trans h.max

def ZPost (T : Nat → Int) (N p0 : Nat) (c0 : Bool) (w : World) (e : Ending) (w' : World) : Prop :=
  ∃ (p : Nat) (c : Bool), e = .returned (.tuple #[.int .i64 p, .bool c]) ∧ Skipped T N p0 c0 p c ∧ stop T N p c = true ∧ Below w.heap.size w w'

set_option maxHeartbeats 1000000 in
theorem zskip (w : World) (g N p0 : Nat) (c0 : Bool) (T : Nat → Int) (m : Int) (h : Tx w g N T m) (hp : p0 ≤ N) :
    Calls Try.prog 7 #[.slice (some ⟨g, 0, none⟩) N N, .int .i64 p0, .bool c0] w fun e w' => ZPost T N p0 c0 w e w' := by
  have h0 : 0 < w.heap.size := World.block_lt_of_cell? w _ h.max
  have hB0 : Below w.heap.size w (w.alloc (.cells #[.slice (some ⟨g, 0, none⟩) N N, .int .i64 p0, .bool c0, .bool false] 32)) := (Below.refl _ _).alloc (Nat.le_refl _) _
  have ht : Txt (w.alloc (.cells #[.slice (some ⟨g, 0, none⟩) N N, .int .i64 p0, .bool c0, .bool false] 32)) w.heap.size g N T m :=
    ⟨h.glt, h.nle, h.byte, (h.below hB0).cell, (h.below hB0).max, h0⟩
  have hL : Lx (w.alloc (.cells #[.slice (some ⟨g, 0, none⟩) N N, .int .i64 p0, .bool c0, .bool false] 32)) (w.alloc (.cells #[.slice (some ⟨g, 0, none⟩) N N, .int .i64 p0, .bool c0, .bool false] 32)) w.heap.size g N p0 c0 :=
    ⟨by rw [World.cell?_alloc_new]; rfl, by rw [World.cell?_alloc_new]; rfl, by rw [World.cell?_alloc_new]; rfl, World.frozen?_alloc_at _ _ _ _ rfl, World.frozen?_alloc_at _ _ _ _ rfl, by simp, Below.refl _ _⟩
  have Ht : Hid _ := ht
  have HL : Hid _ := hL
  have HB0 : Hid _ := hB0
  clear ht hL hB0
  go_enter Try.func7, Try.ntmps7
  go_wp2_with fail
  refine (skip_row _ w.heap.size g N p0 c0 T m Ht.out HL.out hp).mono ?_
  rintro e w' ⟨rfl, p, c, hs1, hs2, hL1⟩
  have c1 := hL1.cp
  have c2 := hL1.cc
  have HB : Hid (Below w.heap.size w w') := HB0.out.trans hL1.b
  have Hs2 : Hid (stop T N p c = true) := hs2
  clear hs2 hL1
  go_wp2_with fail
  go_quiet (fail)
  go_wp2_with fail
  go_ret2
  exact ⟨p, c, rfl, hs1, Hs2.out, below_drewN HB.out _⟩
end Go.Proofs.Qxb6600006a.sk
