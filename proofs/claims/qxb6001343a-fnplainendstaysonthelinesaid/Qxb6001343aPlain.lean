/-
  The contract of 'plainEnd' with no key found.
-/
import Derived.Test.Qxb6001343aLine
namespace Go.Proofs.Qxb6001343a.pe
open Go.RowKit

theorem sp_any (s : ByteArray) (k : Nat) (hk : k < s.size) (h : (!spB ((s[k].toNat : Nat) : Int)) = true) : spB (at' s (k + 1 - 1)) = false := by
  rw [Nat.add_sub_cancel, at'_eq s k hk]
  simpa using h

theorem sp_58 (s : ByteArray) (k : Nat) (hk : k < s.size) (h : ((s[k].toNat : Nat) : Int) = 58) : spB (at' s (k + 1 - 1)) = false := by
  rw [Nat.add_sub_cancel, at'_eq s k hk, h]
  rfl

theorem sp_35 (s : ByteArray) (k : Nat) (hk : k < s.size) (h : ((s[k].toNat : Nat) : Int) = 35) : spB (at' s (k + 1 - 1)) = false := by
  rw [Nat.add_sub_cancel, at'_eq s k hk, h]
  rfl

theorem below_call {b nq : Nat} {w w' : World} (h : Below b (w.drewN nq) w') : Below b w w' := Below.trans (below_drewN (Below.refl _ _) _) h

/-- What 'plainEnd' answers: an offset from p on, up to the end of p's line, behind no space or tab (a name: the walk's simp would turn the quantifiers). -/
def PlainPost (s : ByteArray) (p : Nat) (e : Ending) : Prop :=
  ∃ r E : Nat, e = .returned (.int .i64 r) ∧ p ≤ r ∧ r ≤ E ∧ E ≤ s.size ∧ (∀ j, p ≤ j → j < E → at' s j ≠ 10) ∧ (r = p ∨ spB (at' s (r - 1)) = false)

set_option maxHeartbeats 2000000 in
theorem plainEnd (b : Nat) (s : ByteArray) (p : Nat) (flow : Bool) (x : Value) (w : World) (hs : s.size ≤ maxLen) (hp : p ≤ s.size)
    (h0 : w.cell? ⟨b, 0, none⟩ = some (.string s)) (h1 : w.cell? ⟨b, 1, none⟩ = some (.int .i64 p))
    (h3 : w.cell? ⟨b, 3, none⟩ = some (.int .i64 0)) (h11 : w.cell? ⟨b, 11, none⟩ = some (.int .i64 (-1))) (h12 : w.cell? ⟨b, 12, none⟩ = some x)
    (h13 : w.cell? ⟨b, 13, none⟩ = some (.int .i64 (-1)))
    (f11 : w.frozen? ⟨b, 11, none⟩ = false) (f12 : w.frozen? ⟨b, 12, none⟩ = false) :
    Calls Try.prog 30 #[.pointer (some ⟨b, 0, none⟩), .bool flow] w fun e w' =>
      PlainPost s p e ∧ Below b w w' := by
  unfold maxLen at hs
  have hk : ((p : Int) == -1) = false := beq_eq_false_iff_ne.2 (by omega)
  cases flow
  all_goals
    go_enter Try.func30, Try.ntmps30
    go_wp2_with fail
    go_quiet (fail)
    go_wp2_with fail
    go_region_with (go_at_call 34; refine (lineEnd b s p x _ (by unfold maxLen; exact hs) hp (by go_simp) (by go_simp) (by go_simp) (by go_simp) (by go_simp) (by go_simp) (by go_simp)).mono ?_; rintro e w' ⟨⟨E, rfl, hE1, hE2, hE3⟩, hB, c0, c1⟩)
    all_goals
      have HE : Hid _ := hE3
      clear hE3 h0 h1 h3 h11 h12 h13 f11 f12
      go_wp2_with fail
      go_loop [7, 8] (fun last i => ∃ l k : Nat, last = .int .i64 l ∧ i = .int .i64 k ∧ p ≤ l ∧ l ≤ k ∧ k ≤ E ∧ (l = p ∨ spB (at' s (l - 1)) = false)) (fun _ i => E - (intOf i).toNat)
      case atStart => exact ⟨p, p, rfl, rfl, Nat.le_refl _, Nat.le_refl _, hE1, .inl rfl⟩
      case round =>
        obtain ⟨l, k, rfl, rfl, hl1, hl2, hk2, hlr⟩ := hrel
        have HL : Hid _ := hlr
        clear hlr
        by_cases hlt : k < E
        · have hlt' : k < s.size := by omega
          go_wp2_with (first | (go_at_call 37; refine (blankAt b s _ _ (by unfold maxLen; exact hs) (by omega) c0).mono ?_; rintro e w'' ⟨⟨r, rfl⟩, rfl⟩) | (go_at_call 31; refine (isSpace _ _).mono ?_; rintro e w'' ⟨rfl, rfl⟩) | (go_at_call 33; refine (isFlow _ _).mono ?_; rintro e w'' ⟨⟨r, rfl⟩, rfl⟩))
          all_goals first
            | (go_round
               case rel => first
                 | exact ⟨l, k + 1, rfl, by go_num, hl1, by omega, by omega, HL.out⟩
                 | exact ⟨k + 1, k + 1, by go_num, by go_num, by omega, by omega, by omega, .inr (sp_any s k hlt' (by assumption))⟩
                 | exact ⟨k + 1, k + 1, by go_num, by go_num, by omega, by omega, by omega, .inr (sp_58 s k hlt' (by assumption))⟩
                 | exact ⟨k + 1, k + 1, by go_num, by go_num, by omega, by omega, by omega, .inr (sp_35 s k hlt' (by assumption))⟩
               case measure => simp [intOf]; omega)
            | (go_ret
               exact ⟨⟨l, E, rfl, hl1, by omega, hE2, HE.out, HL.out⟩, below_call hB⟩)
        · go_wp2_with fail
          go_ret
          exact ⟨⟨l, E, rfl, hl1, by omega, hE2, HE.out, HL.out⟩, below_call hB⟩
end Go.Proofs.Qxb6001343a.pe
