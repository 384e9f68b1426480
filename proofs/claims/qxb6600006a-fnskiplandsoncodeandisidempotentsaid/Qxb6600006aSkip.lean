/-
  The contract of skip over a text that is not nil.
-/
import Derived.Test.Qxb6600006aCalls
import Derived.Deep.LoopGhost
import Derived.Deep.DeepCutAuto
namespace Go.Proofs.Qxb6600006a.sk
open Go.RowKit
set_option linter.unusedVariables false

def SkipPost (w : World) (lb g N : Nat) (T : Nat → Int) (p0 : Nat) (c0 : Bool) (e : Ending) (w' : World) : Prop :=
  e = .returned (.tuple #[]) ∧ ∃ p c, Skipped T N p0 c0 p c ∧ stop T N p c = true ∧ Lx w w' lb g N p c

theorem lx_cast {w0 W : World} {lb g N p : Nat} {c : Bool} (h : Lx w0 (W.setCell ⟨lb, 1, none⟩ (.int .i64 ((p + 1 : Nat) : Int))) lb g N (p + 1) c) : Lx w0 (W.setCell ⟨lb, 1, none⟩ (.int .i64 ((p : Int) + 1))) lb g N (p + 1) c := h

theorem stop_blank {T : Nat → Int} {N p : Nat} {c : Bool} (h : p < N) (hA : T p ≤ 32) : stop T N p c = false := by
  have : ¬ N ≤ p := by omega
  simp [stop, this, hA]
theorem stop_k2 {T : Nat → Int} {N p : Nat} {c : Bool} (h : p < N) (hk : k2 T N p = true) : stop T N p c = false := by
  have : ¬ N ≤ p := by omega
  simp [stop, this, hk]
theorem stop_k3 {T : Nat → Int} {N p : Nat} (h : p < N) (hk : pref T N p [42, 47] = true) : stop T N p true = false := by
  have : ¬ N ≤ p := by omega
  simp [stop, this, hk]
theorem stop_k4 {T : Nat → Int} {N p : Nat} {c : Bool} (h : p < N) (hk : k4 T N p = true) : stop T N p c = false := by
  have : ¬ N ≤ p := by omega
  simp [stop, this, hk]
theorem stop_k5 {T : Nat → Int} {N p : Nat} {c : Bool} (h : p < N) (hk : pref T N p [47, 42] = true) : stop T N p c = false := by
  have : ¬ N ≤ p := by omega
  simp [stop, this, hk]

theorem k2_ne {T : Nat → Int} {N p : Nat} (h : k2 T N p = true) : T p ≠ 10 := by
  intro e
  simp [k2, e, pref] at h

theorem k4_ix {T : Nat → Int} {N p : Nat} (hT : ByteT T N) (hp : p ≤ N) (h : k4 T N p = true) : ∃ o : Nat, ixB T N p 33 = o ∧ o < N - p := by
  rcases idx_cases T N p 33 hT (by omega) with ⟨_, hn⟩ | ⟨o, hi, ho, _⟩
  · exfalso
    have h' : pref T N p [47, 42, 33] = true ∨ pref T N p [47, 42, 77, 33] = true := by simpa [k4] using h
    rcases h' with h | h
    · obtain ⟨a, b⟩ := (pref_iff T N _ p hp).1 h
      simp only [List.length_cons, List.length_nil] at a
      exact hn 2 (by omega) (b 2 (by simp))
    · obtain ⟨a, b⟩ := (pref_iff T N _ p hp).1 h
      simp only [List.length_cons, List.length_nil] at a
      exact hn 3 (by omega) (b 3 (by simp))
  · exact ⟨o, hi, ho⟩

theorem pos_wrap {p o : Nat} (h : p + o ≤ 1048576) : IntKind.i64.wrap ((p : Int) + IntKind.i64.wrap ((o : Int) + 1)) = ((p + (o + 1) : Nat) : Int) := by
  rw [IntKind.wrap_i64, IntKind.wrap_i64]
  omega

/-- The position stored, however its number is spelt. -/
theorem lx_at {w0 W : World} {lb g N p q : Nat} {c : Bool} {z : Int} (hz : z = (q : Int)) (h : Lx w0 W lb g N p c) : Lx w0 (W.setCell ⟨lb, 1, none⟩ (.int .i64 z)) lb g N q c := by
  subst hz
  exact h.setP

set_option maxHeartbeats 40000000 in
set_option maxRecDepth 100000 in
theorem skip_row (w : World) (lb g N p0 : Nat) (c0 : Bool) (T : Nat → Int) (m : Int) (ht : Txt w lb g N T m) (h0 : Lx w w lb g N p0 c0) (hp0 : p0 ≤ N) :
    Calls Try.prog 14 #[.pointer (some ⟨lb, 0, none⟩)] w fun e w' => SkipPost w lb g N T p0 c0 e w' := by
  have hN := ht.nle
  have kc : ∀ (W : World) (C : Array Value) (n c : Nat), Sem.run Try.prog (convert 22 22 (.slice (some ⟨W.heap.size, 0, none⟩) n c)) (W.alloc (.cells C 5)) = .ok (.slice (some ⟨W.heap.size, 0, none⟩) n c) (W.alloc (.cells C 5 (C.size, C.size + 1))) := fun W C n c => Lib.run_convert_bytes_const (P := Try.prog) W 22 5 C n c Try.underlying22 Try.underlying5
  go_enter Try.func14, Try.ntmps14
  go_wp2_with fail
  go_loopg [2] (N - p0) (fun k s2 wr => ∃ (p : Nat) (c : Bool), k = N - p ∧ Skipped T N p0 c0 p c ∧ Lx w wr lb g N p c)
  case atStart => exact ⟨p0, c0, rfl, Skipped.start T N p0 c0 hp0, h0⟩
  case round =>
    obtain ⟨p, c, hgk, hsk, hL⟩ := hrel
    have hpN := hsk.hi
    obtain ⟨ct, cp, cc, f1, f2, hlt, hb⟩ := id hL
    by_cases hpn : p < N
    · have hd : decide ((p : Int) < N) = true := by simpa using hpn
      go_wp2_with fail
      go_quiet (fail)
      have hL1 := hL.drewN nq
      clear ct cp cc f1 f2 hlt hb hL
      generalize wr.drewN nq = W1 at *
      obtain ⟨ct, cp, cc, f1, f2, hlt, hb⟩ := id hL1
      go_wp2_with fail
      go_quiet (fail)
      have hL2 := hL1.drewN nq
      clear ct cp cc f1 f2 hlt hb hL1
      generalize W1.drewN nq = W2 at *
      obtain ⟨ct, cp, cc, f1, f2, hlt, hb⟩ := id hL2
      have hx0 := hL2.text ht p hpn
      by_cases hA : T p ≤ 32
      · have hs : stop T N p c = false := stop_blank hpn hA
        as_aux_lemma =>
          go_wp2_with fail
          go_roundg (N - (p + 1))
          case measure => omega
          case rel => exact ⟨p + 1, c, rfl, hsk.step hs (by omega) (by omega), lx_cast hL2.setP⟩
      · go_upto_region 4 with fail
        go_cut [37] (fun s37 wx => s37 = .bool (k2 T N p) ∧ Lx w wx lb g N p c)
        case first =>
          as_aux_lemma =>
            cases h35 : (T p == 35)
            · cases hmm : pref T N p [45, 45]
              · have e : k2 T N p = false := by simp [k2, h35, hmm]
                go_wp2_with (go_at_call 15; refine (hasP2 ht (by assumption) (by omega) 45 45 (by omega) (by omega)).mono ?_; rintro e W3 ⟨rfl, hL3⟩)
                go_meet
                case rel => exact ⟨by rw [e], hL3⟩
              · obtain ⟨q1, q2⟩ := (pref_iff T N [45, 45] p hpN).1 hmm
                simp only [List.length_cons, List.length_nil] at q1
                clear q2
                by_cases h2 : N - p = 2
                · have e : k2 T N p = true := by simp [k2, hmm, h2]
                  have hn2 : (((N - p : Nat) : Int) == 2) = true := beq_iff_eq.2 (by omega)
                  have H2 : Hid (N - p = 2) := h2
                  clear h2
                  go_wp2_with (go_at_call 15; refine (hasP2 ht (by assumption) (by omega) 45 45 (by omega) (by omega)).mono ?_; rintro e W3 ⟨rfl, hL3⟩)
                  go_meet
                  case rel => exact ⟨by rw [e], hL3⟩
                · have hn2 : (((N - p : Nat) : Int) == 2) = false := beq_eq_false_iff_ne.2 (by omega)
                  have h2' : (N - p == 2) = false := beq_eq_false_iff_ne.2 h2
                  by_cases h32 : T (p + 2) ≤ 32
                  · have e : k2 T N p = true := by simp [k2, hmm, h32]
                    go_wp2_with (go_at_call 15; refine (hasP2 ht (by assumption) (by omega) 45 45 (by omega) (by omega)).mono ?_; rintro e W3 ⟨rfl, hL3⟩; have hx2 := hL3.text ht (p + 2) (by omega))
                    go_meet
                    case rel => exact ⟨by rw [e], hL3⟩
                  · have e : k2 T N p = false := by unfold k2; rw [h35, h2', decide_eq_false (show ¬ T (p + 2) ≤ 32 from by omega)]; simp
                    go_wp2_with (go_at_call 15; refine (hasP2 ht (by assumption) (by omega) 45 45 (by omega) (by omega)).mono ?_; rintro e W3 ⟨rfl, hL3⟩; have hx2 := hL3.text ht (p + 2) (by omega))
                    go_meet
                    case rel => exact ⟨by rw [e, decide_eq_false (show ¬ T (p + 2) ≤ 32 from by omega)], hL3⟩
            · have e : k2 T N p = true := by simp [k2, h35]
              go_wp2_with fail
              go_meet
              case rel => exact ⟨by rw [e], hL2⟩
        case rest =>
          obtain ⟨rfl, hL3⟩ := hcut
          clear ct cp cc f1 f2 hlt hb hx0 hL2
          obtain ⟨ct, cp, cc, f1, f2, hlt, hb⟩ := id hL3
          cases hk2 : k2 T N p
          · go_upto_region 9 with fail
            go_cut [73] (fun s73 wx => s73 = .bool (c && pref T N p [42, 47]) ∧ Lx w wx lb g N p c)
            case first =>
              as_aux_lemma =>
                cases c
                · go_wp2_with fail
                  go_meet
                  case rel => exact ⟨by simp, hL3⟩
                · go_wp2_with (go_at_call 15; refine (hasP2 ht (by assumption) (by omega) 42 47 (by omega) (by omega)).mono ?_; rintro e W4 ⟨rfl, hL4⟩)
                  go_meet
                  case rel => exact ⟨by simp, hL4⟩
            case rest =>
              obtain ⟨rfl, hL4⟩ := hcut
              clear ct cp cc f1 f2 hlt hb hL3
              obtain ⟨ct, cp, cc, f1, f2, hlt, hb⟩ := id hL4
              cases hk3 : (c && pref T N p [42, 47])
              · have Hk3 : Hid ((c && pref T N p [42, 47]) = false) := hk3
                clear hk3
                go_upto_region 12 with fail
                go_cut [94] (fun s94 wx => s94 = .bool (k4 T N p) ∧ Lx w wx lb g N p c)
                case first =>
                  as_aux_lemma =>
                    cases h3 : pref T N p [47, 42, 33]
                    · go_wp2_with fail
                      refine (hasP3 ht hL4 hpN 47 42 33 (by omega) (by omega) (by omega)).mono ?_
                      rintro e W5 ⟨rfl, hL5⟩
                      go_wp2_with fail
                      refine (hasP4 ht hL5 hpN 47 42 77 33 (by omega) (by omega) (by omega) (by omega)).mono ?_
                      rintro e W6 ⟨rfl, hL6⟩
                      go_wp2_with fail
                      go_meet
                      case rel => exact ⟨by simp [k4, h3], hL6⟩
                    · go_wp2_with fail
                      refine (hasP3 ht hL4 hpN 47 42 33 (by omega) (by omega) (by omega)).mono ?_
                      rintro e W5 ⟨rfl, hL5⟩
                      go_wp2_with fail
                      go_meet
                      case rel => exact ⟨by simp [k4, h3], hL5⟩
                case rest =>
                  obtain ⟨rfl, hL5⟩ := hcut
                  clear ct cp cc f1 f2 hlt hb hL4
                  obtain ⟨ct, cp, cc, f1, f2, hlt, hb⟩ := id hL5
                  cases hk4 : k4 T N p
                  · skip
                    as_aux_lemma =>
                      cases hk5 : pref T N p [47, 42]
                      · skip
                        as_aux_lemma =>
                          have hs : stop T N p c = true := by
                            have : ¬ N ≤ p := by omega
                            have h3 := Hk3.out
                            unfold stop
                            rw [hk2, h3, hk4, hk5]
                            simp [hA]
                          have Hs : Hid (stop T N p c = true) := hs
                          clear hs
                          go_wp2_with (go_at_call 15; refine (hasP2 ht (by assumption) (by omega) 47 42 (by omega) (by omega)).mono ?_; rintro e W6 ⟨rfl, hL6⟩)
                          go_end0
                          exact ⟨rfl, p, c, hsk, Hs.out, by assumption⟩
                      · have hs : stop T N p c = false := stop_k5 hpn hk5
                        obtain ⟨q1, _⟩ := (pref_iff T N [47, 42] p hpN).1 hk5
                        simp only [List.length_cons, List.length_nil] at q1
                        have hix := ixP_cases T N p
                        go_wp2_with (go_at_call 15; refine (hasP2 ht (by assumption) (by omega) 47 42 (by omega) (by omega)).mono ?_; rintro e W6 ⟨rfl, hL6⟩)
                        case inl =>
                          have hN2 : N - p = 2 := by assumption
                          refine (indexP ht hL6 q1 ⟨g, p, none⟩ 0 (by omega) (fun h => by omega)).mono ?_
                          rintro e W7 ⟨rfl, hL7⟩
                          obtain ⟨ct7, cp7, cc7, f17, f27, hlt7, hb7⟩ := id hL7
                          rcases hix with hi | ⟨i, hi, hi2⟩
                          · go_wp2_with fail
                            go_roundg (N - N)
                            case measure => omega
                            case rel => exact ⟨N, c, rfl, hsk.step hs (by omega) (Nat.le_refl _), lx_at rfl hL7⟩
                          · omega
                        case inr =>
                          refine (indexP ht hL6 q1 ⟨g, p + 2, none⟩ (N - p - 2) (by omega) (fun h => rfl)).mono ?_
                          rintro e W7 ⟨rfl, hL7⟩
                          obtain ⟨ct7, cp7, cc7, f17, f27, hlt7, hb7⟩ := id hL7
                          rcases hix with hi | ⟨i, hi, hi2⟩
                          · go_wp2_with fail
                            go_roundg (N - N)
                            case measure => omega
                            case rel => exact ⟨N, c, rfl, hsk.step hs (by omega) (Nat.le_refl _), lx_at rfl hL7⟩
                          · go_wp2_with fail
                            go_roundg (N - (p + 2 + i + 2))
                            case measure => omega
                            case rel => exact ⟨p + 2 + i + 2, c, rfl, hsk.step hs (by omega) (by omega), lx_at (by omega) hL7⟩
                  · skip
                    as_aux_lemma =>
                      have hs : stop T N p c = false := stop_k4 hpn hk4
                      obtain ⟨o, hi, ho1⟩ := k4_ix ht.byte hpN hk4
                      go_upto_region 14 with fail
                      have hL6 := hL5.setC (d := true)
                      clear ct cp cc f1 f2 hlt hb hL5
                      generalize World.setCell _ _ _ = W6 at *
                      obtain ⟨ct, cp, cc, f1, f2, hlt, hb⟩ := id hL6
                      go_cut [3] (fun s3 wx => Lx w wx lb g N (p + (o + 1)) true)
                      case first =>
                        as_aux_lemma =>
                          go_region_with (go_at_call 16; refine (indexB (W := W6.drew) ht (hL6.drewN 1) (by omega) 33).mono ?_; rintro e W7 ⟨rfl, rfl⟩)
                          all_goals
                            go_wp2_with fail
                            go_meet
                            case rel => exact (lx_at (pos_wrap (by omega)) hL6).drewN 1
                      case rest =>
                        as_aux_lemma =>
                          have hL7 := hcut
                          clear ct cp cc f1 f2 hlt hb hL6 hcut hi
                          go_wp2_with fail
                          go_loopg [4] 6 (fun k s4 wx => ∃ (q j : Nat), s4 = .int .i64 j ∧ k = 6 - j ∧ j ≤ 6 ∧ p < q ∧ q ≤ N ∧ Lx w wx lb g N q true)
                          case atStart => exact ⟨p + (o + 1), 0, rfl, rfl, by omega, by omega, by omega, hL7⟩
                          case round =>
                            obtain ⟨q, j, rfl, hgj, hj6, hpq, hqN, hL8⟩ := hrel
                            clear hL7
                            obtain ⟨ct, cp, cc, f1, f2, hlt, hb⟩ := id hL8
                            by_cases hj : j < 6
                            · have hd6 : decide ((j : Int) < 6) = true := by simp; omega
                              by_cases hq : q < N
                              · have hdq : decide ((q : Int) < (N : Int)) = true := by simpa using hq
                                have hxq := hL8.text ht q hq
                                cases hdg : dgB (T q)
                                · go_wp2_with fail
                                  go_quiet ((go_at_call 17; exact Calls.quiet_of_same (isDigit _ _)))
                                  have hL9 := hL8.drewN nq
                                  clear ct cp cc f1 f2 hlt hb hL8 hxq
                                  generalize wr.drewN nq = W9 at *
                                  go_wp2_with fail
                                  go_roundg (N - q)
                                  case measure => omega
                                  case rel => exact ⟨q, true, rfl, hsk.step hs (by omega) hqN, hL9⟩
                                · go_wp2_with fail
                                  go_quiet ((go_at_call 17; exact Calls.quiet_of_same (isDigit _ _)))
                                  have hL9 := hL8.drewN nq
                                  clear ct cp cc f1 f2 hlt hb hL8 hxq
                                  generalize wr.drewN nq = W9 at *
                                  obtain ⟨ct, cp, cc, f1, f2, hlt, hb⟩ := id hL9
                                  go_wp2_with fail
                                  go_roundg (6 - (j + 1))
                                  case measure => omega
                                  case rel => exact ⟨q + 1, j + 1, by go_num, rfl, by omega, by omega, by omega, lx_at (by omega) hL9⟩
                              · have hdq : decide ((q : Int) < (N : Int)) = false := by simp; omega
                                go_wp2_with fail
                                go_quiet (fail)
                                have hL9 := hL8.drewN nq
                                clear ct cp cc f1 f2 hlt hb hL8
                                generalize wr.drewN nq = W9 at *
                                go_wp2_with fail
                                go_roundg (N - q)
                                case measure => omega
                                case rel => exact ⟨q, true, rfl, hsk.step hs (by omega) hqN, hL9⟩
                            · have hd6 : decide ((j : Int) < 6) = false := by simp; omega
                              go_wp2_with fail
                              go_quiet (fail)
                              have hL9 := hL8.drewN nq
                              clear ct cp cc f1 f2 hlt hb hL8
                              generalize wr.drewN nq = W9 at *
                              go_wp2_with fail
                              go_roundg (N - q)
                              case measure => omega
                              case rel => exact ⟨q, true, rfl, hsk.step hs (by omega) hqN, hL9⟩
              · obtain ⟨rfl, h3⟩ : c = true ∧ pref T N p [42, 47] = true := by simpa using hk3
                have hs : stop T N p true = false := stop_k3 hpn h3
                obtain ⟨q1, _⟩ := (pref_iff T N [42, 47] p hpN).1 h3
                simp only [List.length_cons, List.length_nil] at q1
                as_aux_lemma =>
                  go_wp2_with fail
                  go_roundg (N - (p + 2))
                  case measure => omega
                  case rel => exact ⟨p + 2, false, rfl, hsk.step hs (by omega) (by omega), lx_at (by omega) hL4.setC⟩
          · have hs : stop T N p c = false := stop_k2 hpn hk2
            have hne : T p ≠ 10 := k2_ne hk2
            as_aux_lemma =>
              rcases idx_cases T N p 10 ht.byte (by omega) with ⟨hi, _⟩ | ⟨o, hi, ho1, ho2⟩
              · have hi' : ixB T N p 10 = -1 := hi
                clear hi
                go_wp2_with (go_at_call 16; refine (indexB ht hL3 (by omega) 10).mono ?_; rintro e W4 ⟨rfl, hw4⟩; rw [hw4]; clear hw4)
                go_roundg (N - N)
                case measure => omega
                case rel => exact ⟨N, c, rfl, hsk.step hs (by omega) (Nat.le_refl _), lx_at (by omega) hL3⟩
              · have hi' : ixB T N p 10 = o := hi
                have ho : o ≠ 0 := fun z => by subst z; exact hne ho2
                clear hi ho2
                go_wp2_with (go_at_call 16; refine (indexB ht hL3 (by omega) 10).mono ?_; rintro e W4 ⟨rfl, hw4⟩; rw [hw4]; clear hw4)
                go_roundg (N - (p + o))
                case measure => omega
                case rel => exact ⟨p + o, c, rfl, hsk.step hs (by omega) (by omega), lx_at (by omega) hL3⟩
    · skip
      as_aux_lemma =>
        obtain rfl : N = p := by omega
        have hd : decide ((N : Int) < N) = false := by simp
        go_wp2_with fail
        go_quiet (fail)
        have hL1 := hL.drewN nq
        clear ct cp cc f1 f2 hlt hb hL
        generalize wr.drewN nq = W1 at *
        go_wp2_with fail
        go_end0
        exact ⟨rfl, N, c, hsk, by simp [stop], hL1⟩
end Go.Proofs.Qxb6600006a.sk
