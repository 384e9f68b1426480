/-
  Laws on memory: the copy of the pieces while it is made, and behind it.
-/
import Derived.Test.Qxb6002390aBytes
import Derived.Laws.CopyOwn
namespace Go.Proofs.Qxb6002390a.lc
open Go.RowKit
set_option linter.unusedVariables false

/-- A copied piece as a value: nil, or a row of its own. -/
def pv (p : Option Nat) (l : Nat) : Value := match p with | none => .slice none 0 0 | some g => .slice (some ⟨g, 0, none⟩) l l

/-- The copy, its first k pieces laid: the headers' row is block G; piece i is nil or lies in a block behind G. -/
structure Cp (w : World) (G n k : Nat) (L : Nat → Nat) (B : Nat → Nat → Int) : Prop where
  lt : G < w.heap.size
  free : ∀ i, w.frozen? ⟨G, i, none⟩ = false
  ex : ∀ i, i < n → ∃ p : Option Nat, w.cell? ⟨G, i, none⟩ = some (pv p (L i)) ∧ (k ≤ i → p = none) ∧ (i < k → p = none → L i = 0) ∧
    ∀ g, p = some g → G < g ∧ g < w.heap.size ∧ ∀ j, j < L i → w.cell? ⟨g, j, none⟩ = some (.int .u8 (B i j))

theorem Cp.below {w w' : World} {G n k : Nat} {L : Nat → Nat} {B : Nat → Nat → Int} (h : Cp w G n k L B) (hb : Below w.heap.size w w') : Cp w' G n k L B where
  lt := Nat.lt_of_lt_of_le h.lt hb.size
  free i := (hb.frozen (p := ⟨G, i, none⟩) h.lt).trans (h.free i)
  ex i hi := by
    obtain ⟨p, h1, h2, h3, h4⟩ := h.ex i hi
    refine ⟨p, (hb.cell (p := ⟨G, i, none⟩) h.lt).trans h1, h2, h3, fun g hg => ?_⟩
    obtain ⟨a, b, c⟩ := h4 g hg
    exact ⟨a, Nat.lt_of_lt_of_le b hb.size, fun j hj => (hb.cell (p := ⟨g, j, none⟩) b).trans (c j hj)⟩

theorem Cp.skip {w : World} {G n k : Nat} {L : Nat → Nat} {B : Nat → Nat → Int} (h : Cp w G n k L B) (h0 : L k = 0) : Cp w G n (k + 1) L B where
  lt := h.lt
  free := h.free
  ex i hi := by
    obtain ⟨p, h1, h2, h3, h4⟩ := h.ex i hi
    refine ⟨p, h1, fun hk => h2 (by omega), fun hk hp => ?_, h4⟩
    by_cases e : i = k
    · rw [e]; exact h0
    · exact h3 (by omega) hp

/-- One piece more is laid: its row has been made at block g, filled, and its header stored. -/
theorem Cp.step {w w1 w2 : World} {G n k g : Nat} {L : Nat → Nat} {B : Nat → Nat → Int} (h : Cp w G n k L B) (hk : k < n) (hg : g = w.heap.size)
    (hb : Below w.heap.size w w2) (hlt : g < w2.heap.size) (hcell : ∀ j, j < L k → w2.cell? ⟨g, j, none⟩ = some (.int .u8 (B k j))) :
    Cp (w2.setCell ⟨G, k, none⟩ (.slice (some ⟨g, 0, none⟩) (L k) (L k))) G n (k + 1) L B := by
  have h' := h.below hb
  have hGg : G < g := by rw [hg]; exact h.lt
  refine ⟨by simpa [World.setCell] using h'.lt, fun i => (World.frozen?_setCell _ _ _ _).trans (h'.free i), fun i hi => ?_⟩
  have other : ∀ (b j : Nat), G < b → (w2.setCell ⟨G, k, none⟩ (.slice (some ⟨g, 0, none⟩) (L k) (L k))).cell? ⟨b, j, none⟩ = w2.cell? ⟨b, j, none⟩ := fun b j hb => World.cell?_of_block (w := w2) (Below.heap_setCell _ _ _ _ (by simp; omega))
  by_cases e : i = k
  · subst e
    obtain ⟨p, h1, _⟩ := h'.ex i hi
    refine ⟨some g, World.cell?_setCell_same _ _ _ h1, fun hk => absurd hk (by omega), fun _ hp => (by cases hp), fun g' hg' => ?_⟩
    obtain rfl := Option.some.inj hg'
    exact ⟨hGg, by simpa [World.setCell] using hlt, fun j hj => (other _ _ hGg).trans (hcell j hj)⟩
  · obtain ⟨p, h1, h2, h3, h4⟩ := h'.ex i hi
    refine ⟨p, (World.cell?_setCell_other _ _ _ _ (fun q => e (by simpa using q.symm))).trans h1, fun hk => h2 (by omega), fun hk hp => h3 (by omega) hp, fun g' hg' => ?_⟩
    obtain ⟨a, b, c⟩ := h4 g' hg'
    exact ⟨a, by simpa [World.setCell] using b, fun j hj => (other _ _ a).trans (c j hj)⟩
end Go.Proofs.Qxb6002390a.lc
