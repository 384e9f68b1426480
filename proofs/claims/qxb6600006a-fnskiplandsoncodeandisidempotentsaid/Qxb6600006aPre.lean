/-
  The contract of zzHasPrefixAt.
-/
import Derived.Test.Qxb6600006aCalls
namespace Go.Proofs.Qxb6600006a.sk
open Go.RowKit
set_option linter.unusedVariables false

/-- A string's bytes, as numbers. -/
def nums (s : ByteArray) : List Int := s.data.toList.map fun b => (b.toNat : Int)

theorem nums_length (s : ByteArray) : (nums s).length = s.size := by
  simp [nums]

theorem nums_get (s : ByteArray) (k : Nat) (h : k < s.size) : (nums s).getD k 0 = (s[k].toNat : Int) := by
  have h' : k < s.data.toList.length := by simpa using h
  unfold nums
  rw [List.getD_eq_getElem?_getD, List.getElem?_map, List.getElem?_eq_getElem h']
  rfl

set_option maxHeartbeats 1000000 in
theorem hasAt (g N i : Nat) (T : Nat → Int) (s : ByteArray) (w : World) (hN : N ≤ 1048576) (hs : s.size ≤ 16) (hi : i ≤ N) (hc : ∀ j, j < N → w.cell? ⟨g, j, none⟩ = some (.int .u8 (T j))) :
    Calls Try.prog 8 #[.slice (some ⟨g, 0, none⟩) N N, .int .i64 i, .string s] w fun e w' => e = .returned (.bool (pref T N i (nums s))) ∧ ∃ q, w' = w.drewN q := by
  by_cases h1 : i + s.size ≤ N
  · have hr : ¬ ((N : Int) - i < s.size) := by omega
    go_enter Try.func8, Try.ntmps8
    go_wp2_with fail
    go_loopw [7] (fun j wr => ∃ k : Nat, j = .int .i64 k ∧ k ≤ s.size ∧ (∀ m, m < k → T (i + m) = (nums s).getD m 0) ∧ ∃ q, wr = w.drewN q) (fun j _ => s.size - (intOf j).toNat)
    case atStart => exact ⟨0, rfl, Nat.zero_le _, fun m hm => by omega, 0, rfl⟩
    case round =>
      obtain ⟨k, rfl, hk, hm, q, rfl⟩ := hrel
      have HM : Hid _ := hm
      clear hm
      by_cases hlt : k < s.size
      · have hcell := hc (i + k) (by omega)
        have HG := nums_get s k hlt
        have HG' : Hid _ := HG
        clear HG
        cases hne : (T (i + k) != (s[k].toNat : Int))
        · have HN : Hid (∀ m, m < k + 1 → T (i + m) = (nums s).getD m 0) := fun m hm => by
            by_cases e : m < k
            · exact HM.out m e
            · obtain rfl : m = k := by omega
              rw [HG'.out]
              simpa using hne
          go_wp2_with fail
          go_quiet (fail)
          go_wp2_with fail
          go_roundw
          case rel => exact ⟨k + 1, by go_num, by omega, HN.out, _, rfl⟩
          case measure => simp [intOf]; omega
        · have HF : Hid (pref T N i (nums s) = false) := by
            show pref T N i (nums s) = false
            cases h : pref T N i (nums s)
            · rfl
            · exfalso
              have := ((pref_iff T N _ i hi).1 h).2 k (by rw [nums_length]; exact hlt)
              rw [HG'.out] at this
              simp [this] at hne
          go_wp2_with fail
          go_quiet (fail)
          go_wp2_with fail
          go_ret
          exact ⟨by rw [HF.out]; rfl, q + nq, by simp⟩
      · obtain rfl : s.size = k := by omega
        have He : Hid (pref T N i (nums s) = true) := (pref_iff T N _ i hi).2 ⟨by rw [nums_length]; exact h1, by rw [nums_length]; exact HM.out⟩
        go_wp2_with fail
        go_ret
        exact ⟨by rw [He.out]; rfl, _, rfl⟩
  · have He : Hid (pref T N i (nums s) = false) := by
      show pref T N i (nums s) = false
      cases h : pref T N i (nums s)
      · rfl
      · have := ((pref_iff T N _ i hi).1 h).1
        rw [nums_length] at this
        omega
    have hr : (N : Int) - i < s.size := by omega
    go_enter Try.func8, Try.ntmps8
    go_wp2_with fail
    go_ret
    exact ⟨by rw [He.out]; rfl, 0, rfl⟩
end Go.Proofs.Qxb6600006a.sk
