/-
  Plain laws: prefixes of a text, where a byte stands, where code begins.
-/
import Derived.Lib.Bytealg
import Derived.Lib.Bytes
import Derived.Lib.IndexLaws
import Derived.Lib.Strings
namespace Go.Proofs.Qxb6600006a.sk
set_option linter.unusedVariables false

/-- What is left of the text from p on. -/
def restL (T : Nat → Int) (N p : Nat) : List Int := (List.range (N - p)).map fun j => T (p + j)

/-- Do the bytes ys stand in the text at p? -/
def pref (T : Nat → Int) (N : Nat) : Nat → List Int → Bool
  | _, [] => true
  | p, y :: ys => decide (p < N) && (T p == y) && pref T N (p + 1) ys

def ByteT (T : Nat → Int) (N : Nat) : Prop := ∀ j, j < N → 0 ≤ T j ∧ T j < 256

theorem restL_length (T : Nat → Int) (N p : Nat) : (restL T N p).length = N - p := by simp [restL]
theorem restL_get (T : Nat → Int) (N p j : Nat) (h : j < N - p) : (restL T N p).getD j 0 = T (p + j) := by simp [restL, List.getD_eq_getElem?_getD, h]
theorem restL_cons (T : Nat → Int) (N p : Nat) (h : p < N) : restL T N p = T p :: restL T N (p + 1) := by
  unfold restL
  rw [show N - p = (N - (p + 1)) + 1 from by omega, List.range_succ_eq_map, List.map_cons, List.map_map]
  simp only [Nat.add_zero, Function.comp_def, List.cons.injEq, true_and]
  exact List.map_congr_left fun j _ => by rw [show p + (j + 1) = p + 1 + j from by omega]
theorem restL_nil (T : Nat → Int) (N p : Nat) (h : N ≤ p) : restL T N p = [] := by simp [restL, show N - p = 0 from by omega]
theorem restL_byte (T : Nat → Int) (N p : Nat) (h : ByteT T N) : ∀ x ∈ restL T N p, 0 ≤ x ∧ x < 256 := by
  intro x hx
  obtain ⟨j, hj, rfl⟩ := List.mem_map.1 hx
  exact h _ (by have := List.mem_range.1 hj; omega)

theorem byte_eq (a b : Int) (ha : 0 ≤ a ∧ a < 256) (hb : 0 ≤ b ∧ b < 256) : (UInt8.ofNat a.toNat == UInt8.ofNat b.toNat) = (a == b) := by
  rw [Bool.eq_iff_iff, beq_iff_eq, beq_iff_eq]
  constructor
  · intro h
    have := congrArg UInt8.toNat h
    simp at this
    omega
  · intro h
    rw [h]

theorem hasPrefix_pref (T : Nat → Int) (N : Nat) (hT : ByteT T N) : ∀ (ys : List Int) (p : Nat), (∀ y ∈ ys, 0 ≤ y ∧ y < 256) → Lib.hasPrefix (Lib.bytesOf (restL T N p)) (Lib.bytesOf ys) = pref T N p ys
  | [], p, _ => by simp [Lib.hasPrefix, Lib.bytesOf, pref]
  | y :: ys, p, hy => by
    by_cases h : p < N
    · have ih := hasPrefix_pref T N hT ys (p + 1) fun z hz => hy z (by simp [hz])
      rw [restL_cons T N p h]
      unfold Lib.hasPrefix Lib.bytesOf at *
      rw [List.map_cons, List.map_cons, List.isPrefixOf_cons_cons, ih, pref, byte_eq y (T p) (hy y (by simp)) (hT p h)]
      have e : (y == T p) = (T p == y) := by rw [Bool.eq_iff_iff, beq_iff_eq, beq_iff_eq]; exact ⟨Eq.symm, Eq.symm⟩
      rw [e]
      simp [h]
    · rw [restL_nil T N p (by omega)]
      simp [Lib.hasPrefix, Lib.bytesOf, pref, h]

theorem pref_iff (T : Nat → Int) (N : Nat) : ∀ (ys : List Int) (p : Nat), p ≤ N → (pref T N p ys = true ↔ p + ys.length ≤ N ∧ ∀ m, m < ys.length → T (p + m) = ys.getD m 0)
  | [], p, hp => by simp [pref, hp]
  | y :: ys, p, hp => by
    rw [pref]
    constructor
    · intro h
      simp only [Bool.and_eq_true, decide_eq_true_eq, beq_iff_eq] at h
      obtain ⟨⟨h1, h2⟩, h3⟩ := h
      obtain ⟨a, b⟩ := (pref_iff T N ys (p + 1) (by omega)).1 h3
      refine ⟨by simp; omega, fun m hm => ?_⟩
      cases m with
      | zero => simpa using h2
      | succ m =>
        have := b m (by simpa using hm)
        rw [show p + (m + 1) = p + 1 + m from by omega, this]
        simp
    · rintro ⟨a, b⟩
      simp only [List.length_cons] at a
      have h0 := b 0 (by simp)
      simp only [Bool.and_eq_true, decide_eq_true_eq, beq_iff_eq]
      refine ⟨⟨by omega, by simpa using h0⟩, (pref_iff T N ys (p + 1) (by omega)).2 ⟨by omega, fun m hm => ?_⟩⟩
      have := b (m + 1) (by simpa using hm)
      rw [show p + 1 + m = p + (m + 1) from by omega, this]
      simp

/-- What IndexByte answers on the rest of the text. -/
theorem idx_cases (T : Nat → Int) (N p : Nat) (c : Int) (hT : ByteT T N) (hc : 0 ≤ c ∧ c < 256) :
    (Lib.indexByte (Lib.bytesOf (restL T N p)) c.toNat.toUInt8 = -1 ∧ ∀ j, j < N - p → T (p + j) ≠ c) ∨
    ∃ o : Nat, Lib.indexByte (Lib.bytesOf (restL T N p)) c.toNat.toUInt8 = o ∧ o < N - p ∧ T (p + o) = c := by
  have get : ∀ j, j < N - p → (Lib.bytesOf (restL T N p))[j]? = some (UInt8.ofNat (T (p + j)).toNat) := fun j hj => by simp [Lib.bytesOf, restL, hj]
  have hge := Lib.indexByte_ge (Lib.bytesOf (restL T N p)) c.toNat.toUInt8
  by_cases h : Lib.indexByte (Lib.bytesOf (restL T N p)) c.toNat.toUInt8 = -1
  · refine .inl ⟨h, fun j hj e => ?_⟩
    refine Lib.indexByte_none h j ?_
    rw [get j hj, e]
  · obtain ⟨o, ho⟩ : ∃ o : Nat, Lib.indexByte (Lib.bytesOf (restL T N p)) c.toNat.toUInt8 = o := ⟨(Lib.indexByte (Lib.bytesOf (restL T N p)) c.toNat.toUInt8).toNat, by omega⟩
    have h1 := (Lib.indexByte_some ho).1
    have hl : o < N - p := by
      have := (List.getElem?_eq_some_iff.1 h1).1
      simpa [Lib.bytesOf, restL] using this
    refine .inr ⟨o, ho, hl, ?_⟩
    rw [get o hl] at h1
    have := Option.some.inj h1
    have b := byte_eq (T (p + o)) c (hT _ (by omega)) hc
    have e : (UInt8.ofNat (T (p + o)).toNat == UInt8.ofNat c.toNat) = true := beq_iff_eq.2 this
    rw [b] at e
    exact beq_iff_eq.1 e

theorem index_cases (l sub : List UInt8) (hs : sub ≠ []) : Lib.index l sub = -1 ∨ ∃ i : Nat, Lib.index l sub = i ∧ i + sub.length ≤ l.length := by
  induction l with
  | nil => left; cases sub with
    | nil => exact absurd rfl hs
    | cons a t => rfl
  | cons b l ih =>
    rw [Lib.index]
    split
    · rename_i h
      refine .inr ⟨0, rfl, ?_⟩
      have := (List.isPrefixOf_iff_prefix.1 h).length_le
      omega
    · rcases ih with ih | ⟨i, hi, hl⟩
      · left; simp [ih]
      · right
        refine ⟨i + 1, ?_, by simp; omega⟩
        rw [hi]
        have : ((i : Int) == -1) = false := beq_eq_false_iff_ne.2 (by omega)
        rw [this]
        simp

/-- The five cases of skip's switch. -/
def k2 (T : Nat → Int) (N p : Nat) : Bool := (T p == 35) || (pref T N p [45, 45] && ((N - p == 2) || decide (T (p + 2) ≤ 32)))
def k4 (T : Nat → Int) (N p : Nat) : Bool := pref T N p [47, 42, 33] || pref T N p [47, 42, 77, 33]
/-- Skip stays here: the text's end, or code. -/
def stop (T : Nat → Int) (N p : Nat) (c : Bool) : Bool :=
  decide (N ≤ p) || (!decide (T p ≤ 32) && !k2 T N p && !(c && pref T N p [42, 47]) && !k4 T N p && !pref T N p [47, 42])

/-- What skip does from p0 with c0: it comes to p with c. -/
structure Skipped (T : Nat → Int) (N p0 : Nat) (c0 : Bool) (p : Nat) (c : Bool) : Prop where
  lo : p0 ≤ p
  hi : p ≤ N
  stays : stop T N p0 c0 = true → p = p0 ∧ c = c0

theorem Skipped.start (T : Nat → Int) (N p0 : Nat) (c0 : Bool) (h : p0 ≤ N) : Skipped T N p0 c0 p0 c0 := ⟨Nat.le_refl _, h, fun _ => ⟨rfl, rfl⟩⟩

/-- One round: it goes on only where it does not stop. -/
theorem Skipped.step {T : Nat → Int} {N p0 p q : Nat} {c0 c d : Bool} (h : Skipped T N p0 c0 p c) (hs : stop T N p c = false) (h1 : p ≤ q) (h2 : q ≤ N) : Skipped T N p0 c0 q d :=
  ⟨Nat.le_trans h.lo h1, h2, fun k => by
    obtain ⟨rfl, rfl⟩ := h.stays k
    rw [k] at hs
    cases hs⟩
end Go.Proofs.Qxb6600006a.sk
