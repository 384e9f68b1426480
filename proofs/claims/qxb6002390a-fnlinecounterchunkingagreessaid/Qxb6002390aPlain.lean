/-
  Plain laws: how many line feeds a list of bytes holds; whether it ends on one.
-/
import Derived.Lib.Bytealg
import Derived.Lib.Bytes
namespace Go.Proofs.Qxb6002390a.lc
set_option linter.unusedVariables false

/-- How many line feeds. -/
def cnt : List Int → Nat
  | [] => 0
  | x :: l => (if x == 10 then 1 else 0) + cnt l

/-- Does the list end on a line feed? An empty one: as before. -/
def lastOf (d : Bool) (l : List Int) : Bool := match l.getLast? with | some x => x == 10 | none => d

theorem cnt_append (a b : List Int) : cnt (a ++ b) = cnt a + cnt b := by
  induction a with
  | nil => simp [cnt]
  | cons x l ih => simp [cnt, ih]; omega

theorem cnt_le (l : List Int) : cnt l ≤ l.length := by
  induction l with
  | nil => simp [cnt]
  | cons x l ih => simp only [cnt, List.length_cons]; split <;> omega

theorem cnt_count (l : List Int) (h : ∀ x ∈ l, 0 ≤ x ∧ x < 256) : Lib.countByte (Lib.bytesOf l) (Int.toNat 10).toUInt8 = cnt l := by
  induction l with
  | nil => rfl
  | cons x l ih =>
    have hx := h x (by simp)
    have ih' := ih fun y hy => h y (by simp [hy])
    unfold Lib.countByte Lib.bytesOf at *
    rw [List.map_cons, List.count_cons, ih', cnt]
    obtain ⟨n, rfl⟩ := Int.eq_ofNat_of_zero_le hx.1
    have e : ((UInt8.ofNat (n : Int).toNat) == (Int.toNat 10).toUInt8) = ((n : Int) == 10) := by
      rw [Bool.eq_iff_iff, beq_iff_eq, beq_iff_eq]
      constructor
      · intro h1
        have := congrArg UInt8.toNat h1
        simp at this
        omega
      · intro h1
        have : n = 10 := by omega
        subst this
        rfl
    rw [e]
    omega

theorem lastOf_append (d : Bool) (a b : List Int) : lastOf d (a ++ b) = lastOf (lastOf d a) b := by
  unfold lastOf
  cases b with
  | nil => simp
  | cons x l =>
    rw [List.getLast?_append]
    cases h : (x :: l).getLast? with
    | none => simp at h
    | some y => simp

theorem lastOf_some (d : Bool) (l : List Int) (n : Nat) (hn : l.length = n) (h : 0 < n) : lastOf d l = (l.getD (n - 1) 0 == 10) := by
  unfold lastOf
  subst hn
  rw [List.getLast?_eq_getElem?, List.getD_eq_getElem?_getD, List.getElem?_eq_getElem (by omega)]
  rfl

/-- The number at place k (a name: the walk would spell it otherwise). -/
def el (xs : List Int) (k : Nat) : Int := xs.getD k 0

theorem cnt_take_succ (xs : List Int) (k : Nat) (h : k < xs.length) : cnt (xs.take (k + 1)) = cnt (xs.take k) + (if el xs k == 10 then 1 else 0) := by
  rw [List.take_succ_eq_append_getElem h, cnt_append]
  have : el xs k = xs[k] := by simp [el, List.getD_eq_getElem?_getD, h]
  rw [this]
  simp [cnt]

/-- The pieces' bytes: piece i holds L i bytes, B i j. -/
def piece (L : Nat → Nat) (B : Nat → Nat → Int) (i : Nat) : List Int := (List.range (L i)).map (B i)
/-- The first k pieces, one behind the other. -/
def cat (L : Nat → Nat) (B : Nat → Nat → Int) : Nat → List Int
  | 0 => []
  | k + 1 => cat L B k ++ piece L B k

theorem piece_length (L : Nat → Nat) (B : Nat → Nat → Int) (i : Nat) : (piece L B i).length = L i := by simp [piece]
theorem piece_get (L : Nat → Nat) (B : Nat → Nat → Int) (i j : Nat) (h : j < L i) : (piece L B i).getD j 0 = B i j := by
  simp [piece, List.getD_eq_getElem?_getD, h]
theorem cat_length (L : Nat → Nat) (B : Nat → Nat → Int) (k : Nat) : (cat L B (k + 1)).length = (cat L B k).length + L k := by simp [cat, piece_length]
theorem cat_mono (L : Nat → Nat) (B : Nat → Nat → Int) (k n : Nat) (h : k ≤ n) : (cat L B k).length ≤ (cat L B n).length := by
  induction n with
  | zero => obtain rfl : k = 0 := by omega
            exact Nat.le_refl _
  | succ n ih =>
    by_cases e : k = n + 1
    · rw [e]
      exact Nat.le_refl _
    · have := ih (by omega)
      rw [cat_length]
      omega
theorem piece_byte (L : Nat → Nat) (B : Nat → Nat → Int) (i : Nat) (h : ∀ j, j < L i → 0 ≤ B i j ∧ B i j < 256) : ∀ x ∈ piece L B i, 0 ≤ x ∧ x < 256 := by
  intro x hx
  obtain ⟨j, hj, rfl⟩ := List.mem_map.1 hx
  exact h j (by simpa using hj)
theorem cat_byte (L : Nat → Nat) (B : Nat → Nat → Int) (n : Nat) (h : ∀ i, i < n → ∀ j, j < L i → 0 ≤ B i j ∧ B i j < 256) : ∀ x ∈ cat L B n, 0 ≤ x ∧ x < 256 := by
  induction n with
  | zero => intro x hx; simp [cat] at hx
  | succ n ih =>
    intro x hx
    rcases List.mem_append.1 hx with hx | hx
    · exact ih (fun i hi => h i (by omega)) x hx
    · exact piece_byte L B n (h n (by omega)) x hx
end Go.Proofs.Qxb6002390a.lc
