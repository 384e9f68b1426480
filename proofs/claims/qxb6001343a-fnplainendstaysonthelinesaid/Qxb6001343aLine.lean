/-
  Contracts of 'blankAt', 'lineEnd', 'b1LineEnd'.
-/
import Derived.Test.Qxb6001343aSmall
import Derived.Test.Qxb6001343aShelf
import Derived.Lib.IndexLaws
import Derived.Lib.IndexBytes
import Derived.Deep.QuietTactic
import Derived.BigQuiet
import Derived.BigRegion
import Derived.Deep.RegionWith
import Derived.Outline
namespace Go.Proofs.Qxb6001343a.pe
open Go.RowKit

theorem blankAt (b : Nat) (s : ByteArray) (i : Int) (w : World) (_hs : s.size ≤ maxLen) (_hi : 0 ≤ i) (h0 : w.cell? ⟨b, 0, none⟩ = some (.string s)) :
    Calls Try.prog 37 #[.pointer (some ⟨b, 0, none⟩), .int .i64 i] w fun e w' => AnyBool e ∧ w' = w := by
  unfold maxLen at _hs
  by_cases h : i < s.size
  · go_enter Try.func37, Try.ntmps37
    go_wp2
    all_goals
      go_ret
      exact ⟨⟨_, rfl⟩, rfl⟩
  · go_enter Try.func37, Try.ntmps37
    go_wp2
    go_ret
    exact ⟨⟨_, rfl⟩, rfl⟩

/-- The byte at place k of s, as a number; out of range: 0. -/
def at' (s : ByteArray) (k : Nat) : Nat := (s.data.toList.getD k 0).toNat

theorem at'_eq (s : ByteArray) (k : Nat) (h : k < s.size) : at' s k = s[k].toNat := by
  unfold at'
  rw [List.getD_eq_getElem?_getD, List.getElem?_eq_getElem (by simpa using h)]
  rfl

theorem b1LineEnd (s : ByteArray) (p : Nat) (w : World) (hs : s.size ≤ maxLen) (hp : p ≤ s.size) :
    Calls Try.prog 19 #[.string s, .int .i64 p] w fun e w' => (∃ B : Nat, e = .returned (.int .i64 B) ∧ p ≤ B ∧ B ≤ s.size ∧ (B < s.size → at' s B = 10)) ∧ w' = w := by
  unfold maxLen at hs
  go_enter Try.func19, Try.ntmps19
  go_wp2
  go_loop [5] (fun i => ∃ k : Nat, p ≤ k ∧ k ≤ s.size ∧ i = .int .i64 k) (fun i => s.size - (intOf i).toNat)
  case atStart => exact ⟨p, Nat.le_refl _, hp, rfl⟩
  case round =>
    obtain ⟨k, hk1, hk2, rfl⟩ := hrel
    by_cases hlt : k < s.size
    · go_wp2
      · go_ret
        refine ⟨⟨k, rfl, hk1, hk2, fun _ => ?_⟩, rfl⟩
        rw [at'_eq s k hlt]
        have hh : (((s[k].toNat : Nat) : Int) == 10) = true := by assumption
        have := beq_iff_eq.1 hh
        omega
      · go_round
        case rel => exact ⟨k + 1, by omega, by omega, by go_num⟩
        case measure => simp [intOf]; omega
    · go_wp2
      go_ret
      exact ⟨⟨s.size, rfl, by omega, Nat.le_refl _, fun h => by omega⟩, rfl⟩

theorem at'_getElem? (s : ByteArray) (j : Nat) (h : j < s.size) : s.data.toList[j]? = some (s.data.toList.getD j 0) := by
  rw [List.getD_eq_getElem?_getD, List.getElem?_eq_getElem (by simpa using h)]
  rfl

theorem ne_of_piece (s : ByteArray) (p k : Nat) (h : p + k < s.size) (hn : (s.extract p s.size).data.toList[k]? ≠ some (Int.toNat 10).toUInt8) : at' s (p + k) ≠ 10 := by
  rw [Lib.extract_to_end, List.getElem?_drop, at'_getElem? s (p + k) h] at hn
  intro e
  apply hn
  unfold at' at e
  congr 1
  exact UInt8.toNat_inj.1 e

/-- What IndexByte hands back on s[p:], in the words that the law wants. -/
theorem idx_cases (s : ByteArray) (p : Nat) :
    (Lib.indexByte (s.extract p s.size).data.toList (Int.toNat 10).toUInt8 = -1 ∧ ∀ j, p ≤ j → j < s.size → at' s j ≠ 10) ∨
    ∃ o : Nat, Lib.indexByte (s.extract p s.size).data.toList (Int.toNat 10).toUInt8 = o ∧ p + o < s.size ∧ ∀ j, p ≤ j → j < p + o → at' s j ≠ 10 := by
  rcases Lib.indexByte_piece s p s.size (Int.toNat 10).toUInt8 with h | ⟨o, h, ho⟩
  · refine .inl ⟨h, fun j hj hs => ?_⟩
    obtain ⟨k, rfl⟩ : ∃ k, j = p + k := ⟨j - p, by omega⟩
    exact ne_of_piece s p k hs (Lib.indexByte_none h k)
  · refine .inr ⟨o, h, ho, fun j hj hs => ?_⟩
    obtain ⟨k, rfl⟩ : ∃ k, j = p + k := ⟨j - p, by omega⟩
    exact ne_of_piece s p k (by omega) ((Lib.indexByte_some h).2 k (by omega))

/-- What IndexByte hands back on s[p:], under a name. -/
def lineIx (s : ByteArray) (p : Nat) : Int := Lib.indexByte (s.extract p s.size).data.toList (Int.toNat 10).toUInt8

theorem indexLine (s : ByteArray) (p : Nat) (w : World) :
    Calls Try.prog 39 #[.string (s.extract p s.size), .int .u8 10] w fun e w' => e = .returned (.int .i64 (lineIx s p)) ∧ w' = w := Try.strings_IndexByte _ _ _

theorem setCell_drewN (w : World) (n : Nat) (a : Addr) (v : Value) : (w.drewN n).setCell a v = (w.setCell a v).drewN n := rfl
theorem alloc_drewN (w : World) (n : Nat) (o : Obj) : (w.drewN n).alloc o = (w.alloc o).drewN n := rfl
attribute [local go_sem] setCell_drewN alloc_drewN

set_option maxHeartbeats 1000000 in
theorem lineEnd (b : Nat) (s : ByteArray) (p : Nat) (x : Value) (w : World) (hs : s.size ≤ maxLen) (hp : p ≤ s.size)
    (h0 : w.cell? ⟨b, 0, none⟩ = some (.string s)) (h1 : w.cell? ⟨b, 1, none⟩ = some (.int .i64 p))
    (h3 : w.cell? ⟨b, 3, none⟩ = some (.int .i64 0)) (h11 : w.cell? ⟨b, 11, none⟩ = some (.int .i64 (-1))) (h12 : w.cell? ⟨b, 12, none⟩ = some x)
    (f11 : w.frozen? ⟨b, 11, none⟩ = false) (f12 : w.frozen? ⟨b, 12, none⟩ = false) :
    Calls Try.prog 34 #[.pointer (some ⟨b, 0, none⟩)] w fun e w' =>
      (∃ E : Nat, e = .returned (.int .i64 E) ∧ p ≤ E ∧ E ≤ s.size ∧ ∀ j, p ≤ j → j < E → at' s j ≠ 10) ∧ Below b w w' ∧ w'.cell? ⟨b, 0, none⟩ = some (.string s) ∧ w'.cell? ⟨b, 1, none⟩ = some (.int .i64 p) := by
  unfold maxLen at hs
  have hd : ((-1 : Int) != 0) = true := by decide
  have hx := idx_cases s p
  go_enter Try.func34, Try.ntmps34
  go_wp2_with fail
  go_quiet (fail)
  go_wp2_with fail
  go_region
  go_wp2_with fail
  have k0 : ((((w.setCell ⟨b, 11, none⟩ (.int .i64 0)).setCell ⟨b, 12, none⟩ (.int .i64 s.size)).drewN (nq + 1))).cell? ⟨b, 0, none⟩ = some (.string s) := by go_simp
  have k1 : ((((w.setCell ⟨b, 11, none⟩ (.int .i64 0)).setCell ⟨b, 12, none⟩ (.int .i64 s.size)).drewN (nq + 1))).cell? ⟨b, 1, none⟩ = some (.int .i64 p) := by go_simp
  have k12 : ((((w.setCell ⟨b, 11, none⟩ (.int .i64 0)).setCell ⟨b, 12, none⟩ (.int .i64 s.size)).drewN (nq + 1))).cell? ⟨b, 12, none⟩ = some (.int .i64 s.size) := by go_simp
  have q12 : ((((w.setCell ⟨b, 11, none⟩ (.int .i64 0)).setCell ⟨b, 12, none⟩ (.int .i64 s.size)).drewN (nq + 1))).frozen? ⟨b, 12, none⟩ = false := by go_simp
  have HB : Below b w (((w.setCell ⟨b, 11, none⟩ (.int .i64 0)).setCell ⟨b, 12, none⟩ (.int .i64 s.size)).drewN (nq + 1)) := below_drewN (Below.setCell (Below.setCell (Below.refl _ _) (by simp) _) (by simp) _) _
  clear h0 h1 h3 h11 h12 f11 f12
  generalize (((w.setCell ⟨b, 11, none⟩ (.int .i64 0)).setCell ⟨b, 12, none⟩ (.int .i64 s.size)).drewN (nq + 1)) = W1 at *
  rcases hx with ⟨hi, hno⟩ | ⟨o, hi, ho, hno⟩
  · have Hno : Hid _ := hno
    clear hno
    have hi' : lineIx s p = -1 := hi
    clear hi
    go_quiet ((go_at_call 39; exact Calls.quiet_of_same (indexLine s p _)))
    go_wp2_with fail
    go_ret
    refine ⟨⟨s.size, rfl, hp, Nat.le_refl _, Hno.out⟩, ?_, ?_, ?_⟩
    · exact below_drewN HB _
    · go_simp
    · go_simp
  · have Hno : Hid _ := hno
    clear hno
    have hi' : lineIx s p = o := hi
    clear hi
    go_quiet ((go_at_call 39; exact Calls.quiet_of_same (indexLine s p _)))
    go_wp2_with fail
    go_ret
    refine ⟨⟨p + o, by go_num, by omega, by omega, Hno.out⟩, ?_, ?_, ?_⟩
    · exact below_drewN (Below.setCell HB (by simp) _) _
    · go_simp
    · go_simp
end Go.Proofs.Qxb6001343a.pe
