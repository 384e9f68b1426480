/-
  The walk of the law.
-/
import Derived.Test.Qxb6600006aZskip
import Derived.Test.Qxb6600006aZz
import Derived.Test.Qxb6600006aPre
import Derived.Laws.CopyOwn
namespace Go.Proofs.Qxb6600006a.sk
open Go.RowKit
set_option linter.unusedVariables false

theorem info5 : (Try.prog.info? 5).map (fun i => (i.zero, i.size, i.bytes)) = some (some (.int .u8 0), 1, 1) := by kernel_rfl

theorem cur_of {w1 : World} {g l : Nat} {xs : List Value} (h : w1.ownsRow g 5 1 (.slice (some ⟨g, 0, none⟩) l l) l xs) : ∃ cur, w1.heap[g]? = some (.cells cur 5 (0, 0)) ∧ cur.size = l := by
  rcases h.2 with ⟨h', _⟩ | ⟨g', cap', cur, h', _, hg, _, _, hs, _⟩
  · simp at h'
  · simp only [Value.slice.injEq, Option.some.injEq, Addr.mk.injEq, and_true, true_and] at h'
    obtain ⟨rfl, rfl⟩ := h'
    exact ⟨cur, hg, by simpa using hs⟩

/-- The text's cells. -/
def bytesV (T : Nat → Int) (n : Nat) : List Value := (List.range n).map fun j => Value.int .u8 (T j)
theorem bytesV_length (T : Nat → Int) (n : Nat) : (bytesV T n).length = n := by simp [bytesV]
theorem bytesV_min (T : Nat → Int) (n : Nat) : (bytesV T n).length = Nat.min n n := by rw [bytesV_length]; exact (Nat.min_self _).symm
theorem bytesV_get (T : Nat → Int) (n j : Nat) (h : j < n) : (bytesV T n)[j]? = some (.int .u8 (T j)) := by simp [bytesV, h]
theorem bytesV_one (T : Nat → Int) (n : Nat) : ∀ v ∈ bytesV T n, v.oneCell' = true := by
  intro v hv
  obtain ⟨j, _, rfl⟩ := List.mem_map.1 hv
  rfl
theorem bytesV_src {w w1 : World} {T : Nat → Int} {n : Nat} {y : Addr} (hb : Below w.heap.size w w1) (h : ∀ j, j < n → w.cell? (y.add j) = some (.int .u8 (T j))) :
    ∀ j v, (bytesV T n)[j]? = some v → w1.cell? (y.add j) = some v := by
  intro j v hv
  have hj : j < n := by
    have := (List.getElem?_eq_some_iff.1 hv).1
    rwa [bytesV_length] at this
  rw [bytesV_get T n j hj] at hv
  obtain rfl := Option.some.inj hv
  exact (hb.cell (World.block_lt_of_cell? w _ (h j hj))).trans (h j hj)

theorem tx_copy {w w1 : World} {T : Nat → Int} {n : Nat} {m : Int} {cur : Array Value} (hn : n ≤ 1048576) (hT : ByteT T n) (hm : w.cell? ⟨0, 0, none⟩ = some (.int .i64 m)) (hb : Below w.heap.size w w1)
    (hg : w1.heap[w.heap.size]? = some (.cells cur 5 (0, 0))) (rest : List Value) : Tx (w1.setRow w.heap.size (bytesV T n ++ rest).toArray) w.heap.size n T m ∧ Below w.heap.size w (w1.setRow w.heap.size (bytesV T n ++ rest).toArray) := by
  have hb2 := below_setRow hb (Nat.le_refl _) (bytesV T n ++ rest).toArray
  refine ⟨⟨?_, hn, hT, fun j hj => ?_, (hb2.cell (p := ⟨0, 0, none⟩) (World.block_lt_of_cell? w _ hm)).trans hm⟩, hb2⟩
  · have := (Array.getElem?_eq_some_iff.1 hg).1
    simpa using this
  · rw [cell_setRow_same w1 w.heap.size j cur _ 5 (0, 0) hg]
    have := bytesV_get T n j hj
    have hl : j < (bytesV T n).length := by rw [bytesV_length]; exact hj
    rw [← this]
    simp [List.getElem?_append_left hl]

theorem has47 (w : World) (g N i : Nat) (T : Nat → Int) (m : Int) (h : Tx w g N T m) (hi : i ≤ N) :
    Calls Try.prog 8 #[.slice (some ⟨g, 0, none⟩) N N, .int .i64 i, .string ⟨#[47, 42]⟩] w fun e w' => e = .returned (.bool (pref T N i [47, 42])) ∧ Below w.heap.size w w' :=
  (hasAt g N i T ⟨#[47, 42]⟩ w h.nle (by decide) hi h.cell).mono fun e w' ⟨h1, q, h2⟩ => ⟨h1, by rw [h2]; exact below_drewN (Below.refl _ _) _⟩
theorem has45 (w : World) (g N i : Nat) (T : Nat → Int) (m : Int) (h : Tx w g N T m) (hi : i ≤ N) :
    Calls Try.prog 8 #[.slice (some ⟨g, 0, none⟩) N N, .int .i64 i, .string ⟨#[45, 45]⟩] w fun e w' => e = .returned (.bool (pref T N i [45, 45])) ∧ Below w.heap.size w w' :=
  (hasAt g N i T ⟨#[45, 45]⟩ w h.nle (by decide) hi h.cell).mono fun e w' ⟨h1, q, h2⟩ => ⟨h1, by rw [h2]; exact below_drewN (Below.refl _ _) _⟩
theorem has42 (w : World) (g N i : Nat) (T : Nat → Int) (m : Int) (h : Tx w g N T m) (hi : i ≤ N) :
    Calls Try.prog 8 #[.slice (some ⟨g, 0, none⟩) N N, .int .i64 i, .string ⟨#[42, 47]⟩] w fun e w' => e = .returned (.bool (pref T N i [42, 47])) ∧ Below w.heap.size w w' :=
  (hasAt g N i T ⟨#[42, 47]⟩ w h.nle (by decide) hi h.cell).mono fun e w' ⟨h1, q, h2⟩ => ⟨h1, by rw [h2]; exact below_drewN (Below.refl _ _) _⟩

/-- What 'stop' says of a place within the text. -/
theorem stop_parts {T : Nat → Int} {N p : Nat} {c : Bool} (h : stop T N p c = true) (hp : p < N) :
    ¬ T p ≤ 32 ∧ (T p == 35) = false ∧ (pref T N p [45, 45] && ((N - p == 2) || decide (T (p + 2) ≤ 32))) = false ∧ (c && pref T N p [42, 47]) = false ∧ pref T N p [47, 42] = false := by
  have hn : ¬ N ≤ p := by omega
  simp only [stop, k2, hn, decide_false, Bool.false_or, Bool.and_eq_true, Bool.not_eq_true', decide_eq_false_iff_not, Bool.or_eq_false_iff] at h
  exact ⟨h.1.1.1.1, h.1.1.1.2.1, h.1.1.1.2.2, h.1.1.2, h.2⟩

set_option maxHeartbeats 4000000 in
set_option maxRecDepth 100000 in
theorem law_row (x : Addr) (n cap : Nat) (T : Nat → Int) (m a1 : Int) (a2 : Bool) (w : World) (hn : n ≤ maxLen) (hT : ByteT T n) (hc : ∀ j, j < n → w.cell? (x.add j) = some (.int .u8 (T j))) (hm : w.cell? ⟨0, 0, none⟩ = some (.int .i64 m)) (b1 : -9223372036854775808 ≤ a1 ∧ a1 ≤ 9223372036854775807) :
    Calls Try.prog 3 #[.slice (some x) n cap, .int .i64 a1, .bool a2] w fun e w' => e = .returned (.bool true) ∧ Below w.heap.size w w' := by
  have ne := fun wx => run_neq_slice_nil_any (P := Try.prog) wx 22 5 (some x) n cap 0 0 Try.underlying22
  have HC : Hid _ := hc
  have HT : Hid _ := hT
  clear hc hT
  by_cases c1 : n ≤ 1048576
  · have d1 : decide (n ≤ 1048576) = true := by simpa using c1
    by_cases c2 : a1 < 0
    · go_enter Try.func3, Try.ntmps3
      go_wp2_with (go_at_call 6; refine (small (some x) n cap a1 a2 _ hn).mono ?_; rintro e w' ⟨rfl, rfl⟩)
      go_ret
      exact ⟨rfl, Below.refl _ _⟩
    · obtain ⟨p, rfl⟩ := Int.eq_ofNat_of_zero_le (Int.not_lt.1 c2)
      clear c2
      by_cases c3 : p ≤ n
      · obtain ⟨i5, hi, hz0, hz1, hz2⟩ := info_parts info5
        go_enter Try.func3, Try.ntmps3
        go_wp2_with (first | (go_at_call 6; refine (small (some x) n cap p a2 _ hn).mono ?_; rintro e w' ⟨rfl, hw⟩; rw [hw]; clear hw) | (at_make; refine wpList_make_full _ rfl _ _ 22 rfl w.heap.size 5 i5 (.int .u8 0) 1 Try.underlying22 hi hz0 hz1 _ _ _ _ n rfl rfl rfl rfl (by rw [hz2]; omega) (by unfold maxLen; omega) (Nat.le_refl _) ?_))
        intro w1 hown hgrow
        obtain ⟨cur, hcur, hcs⟩ := cur_of hown
        have HB1 : Hid (Below w.heap.size w w1) := (Below.refl _ _).grown hgrow (Nat.le_refl _) (fun k h => by cases h)
        clear hown hgrow hi hz0 hz1 hz2 ne
        go_wp2_with (refine wpList_copy_own rfl (.tmp 34) (.tmp 35) 22 22 rfl 5 Try.underlying22 (by kernel_rfl) w.heap.size 0 n n x n cap rfl rfl cur 5 hcur (bytesV T n) (bytesV_min T n) (bytesV_src HB1.out HC.out) (by rw [bytesV_length, hcs]; omega) (bytesV_one T n) ?_)
        obtain ⟨htx, hB2⟩ := tx_copy c1 HT.out hm HB1.out hcur (List.drop (bytesV T n).length cur.toList)
        clear hcur hcs HB1 HC HT
        generalize w1.setRow w.heap.size (bytesV T n ++ List.drop (bytesV T n).length cur.toList).toArray = W2 at *
        refine (zskip W2 w.heap.size n p a2 T m htx c3).mono ?_
        rintro e W3 ⟨p1, d, rfl, hs1, hs2, hB3⟩
        have hlo := hs1.lo
        have hhi := hs1.hi
        have tx3 := htx.below hB3
        have HBw : Hid (Below w.heap.size w W3) := hB2.trans (hB3.mono hB2.size)
        have Hs2 : Hid (stop T n p1 d = true) := hs2
        clear hs1 hs2 htx hB2 hB3
        by_cases c4 : p1 < n
        · obtain ⟨q1, q2, q3, q4, q5⟩ := stop_parts Hs2.out c4
          have hx := tx3.cell p1 c4
          have Q3 : Hid _ := q3
          have Q4 : Hid _ := q4
          clear q3 q4
          go_wp2_with fail
          refine (has47 W3 w.heap.size n p1 T m tx3 hhi).mono ?_
          rintro e W4 ⟨rfl, hB4⟩
          have tx4 := tx3.below hB4
          have HB4 : Hid (Below w.heap.size w W4) := HBw.out.trans (hB4.mono HBw.out.size)
          clear hx hB4 HBw tx3
          go_wp2_with fail
          refine (has45 W4 w.heap.size n p1 T m tx4 hhi).mono ?_
          rintro e W5 ⟨rfl, hB5⟩
          have tx5 := tx4.below hB5
          have HB5 : Hid (Below w.heap.size w W5) := HB4.out.trans (hB5.mono HB4.out.size)
          clear hB5 HB4 tx4
          have fin : ∀ (W : World), Tx W w.heap.size n T m → Below w.heap.size w W → Calls Try.prog 7 #[.slice (some ⟨w.heap.size, 0, none⟩) n n, .int .i64 p1, .bool d] W fun e w' => e = .returned (.tuple #[.int .i64 p1, .bool d]) ∧ Below w.heap.size w w' := fun W hW hb =>
            (zskip W w.heap.size n p1 d T m hW hhi).mono fun e w' ⟨p2, d2, h1, h2, _, h4⟩ => by
              obtain ⟨rfl, rfl⟩ := h2.stays Hs2.out
              exact ⟨h1, hb.trans (h4.mono hb.size)⟩
          have Hfin : Hid _ := fin
          clear fin
          rcases Bool.eq_false_or_eq_true (pref T n p1 [45, 45]) with hmm | hmm
          · obtain ⟨r1, _⟩ := (pref_iff T n [45, 45] p1 hhi).1 hmm
            simp only [List.length_cons, List.length_nil] at r1
            have q3 := Q3.out
            rw [hmm] at q3
            simp only [Bool.true_and, Bool.or_eq_false_iff, beq_eq_false_iff_ne, decide_eq_false_iff_not] at q3
            obtain ⟨r2, r3⟩ := q3
            have hn2 : ((n : Int) - p1 == 2) = false := beq_eq_false_iff_ne.2 (by omega)
            have hl2 : p1 + 2 < n := by omega
            have hx2 := tx5.cell (p1 + 2) hl2
            have R2 : Hid _ := r2
            clear r2
            cases d
            · go_wp2_with fail
              refine (Hfin.out W5 tx5 HB5.out).mono ?_
              rintro e W6 ⟨rfl, hB6⟩
              go_wp2_with fail
              go_ret
              exact ⟨rfl, hB6⟩
            · have q4 : pref T n p1 [42, 47] = false := by simpa using Q4.out
              go_wp2_with fail
              refine (has42 W5 w.heap.size n p1 T m tx5 hhi).mono ?_
              rintro e W6 ⟨rfl, hB6⟩
              have tx6 := tx5.below hB6
              have HB6 : Hid (Below w.heap.size w W6) := HB5.out.trans (hB6.mono HB5.out.size)
              clear hB6
              go_wp2_with fail
              refine (Hfin.out W6 tx6 HB6.out).mono ?_
              rintro e W7 ⟨rfl, hB7⟩
              go_wp2_with fail
              go_ret
              exact ⟨rfl, hB7⟩
          · cases d
            · go_wp2_with fail
              refine (Hfin.out W5 tx5 HB5.out).mono ?_
              rintro e W6 ⟨rfl, hB6⟩
              go_wp2_with fail
              go_ret
              exact ⟨rfl, hB6⟩
            · have q4 : pref T n p1 [42, 47] = false := by simpa using Q4.out
              go_wp2_with fail
              refine (has42 W5 w.heap.size n p1 T m tx5 hhi).mono ?_
              rintro e W6 ⟨rfl, hB6⟩
              have tx6 := tx5.below hB6
              have HB6 : Hid (Below w.heap.size w W6) := HB5.out.trans (hB6.mono HB5.out.size)
              clear hB6
              go_wp2_with fail
              refine (Hfin.out W6 tx6 HB6.out).mono ?_
              rintro e W7 ⟨rfl, hB7⟩
              go_wp2_with fail
              go_ret
              exact ⟨rfl, hB7⟩
        · obtain rfl : n = p1 := by omega
          go_wp2_with fail
          refine (zskip W3 w.heap.size n n d T m tx3 (Nat.le_refl _)).mono ?_
          rintro e W4 ⟨p2, d2, rfl, k1, k2, hB4⟩
          obtain ⟨rfl, rfl⟩ := k1.stays Hs2.out
          clear k1 k2
          go_wp2_with fail
          go_ret
          exact ⟨by simp, HBw.out.trans (hB4.mono HBw.out.size)⟩
      · go_enter Try.func3, Try.ntmps3
        go_wp2_with (go_at_call 6; refine (small (some x) n cap p a2 _ hn).mono ?_; rintro e w' ⟨rfl, rfl⟩)
        go_ret
        exact ⟨rfl, Below.refl _ _⟩
  · have d1 : decide (n ≤ 1048576) = false := by simpa using c1
    go_enter Try.func3, Try.ntmps3
    go_wp2_with (go_at_call 6; refine (small (some x) n cap a1 a2 _ hn).mono ?_; rintro e w' ⟨rfl, rfl⟩)
    go_ret
    exact ⟨rfl, Below.refl _ _⟩
end Go.Proofs.Qxb6600006a.sk
