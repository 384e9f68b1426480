/-
  The walk of the law: pieces that are not nil.
-/
import Derived.Test.Qxb6002390aMem
namespace Go.Proofs.Qxb6002390a.lc
open Go.RowKit
set_option linter.unusedVariables false

theorem info24 : (Try.prog.info? 24).map (fun i => (i.zero, i.size, i.bytes)) = some (some (.slice none 0 0), 1, 24) := by kernel_rfl
theorem info5 : (Try.prog.info? 5).map (fun i => (i.zero, i.size, i.bytes)) = some (some (.int .u8 0), 1, 1) := by kernel_rfl

theorem made24 (n : Nat) (j : Nat) (h : j < n) : (madeCells #[Value.slice none 0 0] n).toList[j]? = some (.slice none 0 0) := by
  simp [madeCells, h, Nat.mod_one]

theorem cp_start {w1 : World} {G n : Nat} {L : Nat → Nat} {B : Nat → Nat → Int} (h : w1.ownsRow G 24 1 (.slice (some ⟨G, 0, none⟩) n n) n (madeCells #[Value.slice none 0 0] n).toList) : Cp w1 G n 0 L B where
  lt := by
    rcases h.2 with ⟨h', _⟩ | ⟨g', cap', cur, h', _, hg, _⟩
    · simp at h'
    · simp only [Value.slice.injEq, Option.some.injEq, Addr.mk.injEq, and_true, true_and] at h'
      obtain ⟨rfl, rfl⟩ := h'
      exact (Array.getElem?_eq_some_iff.1 hg).1
  free i := h.frozenAt i
  ex i hi := ⟨none, by rw [h.cellAt i (by omega), made24 n i hi]; rfl, fun _ => rfl, fun hk => absurd hk (by omega), fun g hg => by cases hg⟩

theorem cur_of {w1 : World} {g l : Nat} {xs : List Value} (h : w1.ownsRow g 5 1 (.slice (some ⟨g, 0, none⟩) l l) l xs) : ∃ cur, w1.heap[g]? = some (.cells cur 5 (0, 0)) ∧ cur.size = l := by
  rcases h.2 with ⟨h', _⟩ | ⟨g', cap', cur, h', _, hg, _, _, hs, _⟩
  · simp at h'
  · simp only [Value.slice.injEq, Option.some.injEq, Addr.mk.injEq, and_true, true_and] at h'
    obtain ⟨rfl, rfl⟩ := h'
    exact ⟨cur, hg, by simpa using hs⟩

/-- A piece's cells. -/
def bytesV (L : Nat → Nat) (B : Nat → Nat → Int) (i : Nat) : List Value := (piece L B i).map (Value.int .u8)
theorem bytesV_length (L : Nat → Nat) (B : Nat → Nat → Int) (i : Nat) : (bytesV L B i).length = L i := by simp [bytesV, piece_length]
theorem bytesV_min (L : Nat → Nat) (B : Nat → Nat → Int) (i : Nat) : (bytesV L B i).length = Nat.min (L i) (L i) := by rw [bytesV_length]; exact (Nat.min_self _).symm
theorem bytesV_one (L : Nat → Nat) (B : Nat → Nat → Int) (i : Nat) : ∀ v ∈ bytesV L B i, v.oneCell' = true := ints_oneCell _ _
theorem bytesV_get (L : Nat → Nat) (B : Nat → Nat → Int) (i j : Nat) (h : j < L i) : (bytesV L B i)[j]? = some (.int .u8 (B i j)) := by simp [bytesV, piece, h]
theorem bytesV_src {wr w1 : World} {L : Nat → Nat} {B : Nat → Nat → Int} {k : Nat} {y : Addr} (hb : Below wr.heap.size wr w1) (h : ∀ j, j < L k → wr.cell? (y.add j) = some (.int .u8 (B k j))) :
    ∀ j v, (bytesV L B k)[j]? = some v → w1.cell? (y.add j) = some v := by
  intro j v hv
  have hj : j < L k := by
    have := (List.getElem?_eq_some_iff.1 hv).1
    rwa [bytesV_length] at this
  rw [bytesV_get L B k j hj] at hv
  obtain rfl := Option.some.inj hv
  exact (hb.cell (World.block_lt_of_cell? wr _ (h j hj))).trans (h j hj)

theorem store_cell {wr w1 : World} {G n k : Nat} {L : Nat → Nat} {B : Nat → Nat → Int} (h : Cp wr G n k L B) (hk : k < n) (hb : Below wr.heap.size wr w1) (arr : Array Value) :
    (w1.setRow wr.heap.size arr).cell? ⟨G, k, none⟩ = some (.slice none 0 0) := by
  obtain ⟨p, h1, h2, _⟩ := (h.below (below_setRow hb (Nat.le_refl _) arr)).ex k hk
  rw [h2 (Nat.le_refl _)] at h1
  exact h1

theorem store_free {wr w1 : World} {G n k : Nat} {L : Nat → Nat} {B : Nat → Nat → Int} (h : Cp wr G n k L B) (hb : Below wr.heap.size wr w1) (arr : Array Value) (i : Nat) :
    (w1.setRow wr.heap.size arr).frozen? ⟨G, i, none⟩ = false := (h.below (below_setRow hb (Nat.le_refl _) arr)).free i

theorem copy_end {w wr w1 : World} {n k : Nat} {L : Nat → Nat} {B : Nat → Nat → Int} {cur : Array Value} (h : Cp wr w.heap.size n k L B) (hB : Below w.heap.size w wr) (hk : k < n) (hb : Below wr.heap.size wr w1)
    (hg : w1.heap[wr.heap.size]? = some (.cells cur 5 (0, 0))) (rest : List Value) :
    Cp ((w1.setRow wr.heap.size (bytesV L B k ++ rest).toArray).setCell ⟨w.heap.size, k, none⟩ (.slice (some ⟨wr.heap.size, 0, none⟩) (L k) (L k))) w.heap.size n (k + 1) L B ∧
    Below w.heap.size w ((w1.setRow wr.heap.size (bytesV L B k ++ rest).toArray).setCell ⟨w.heap.size, k, none⟩ (.slice (some ⟨wr.heap.size, 0, none⟩) (L k) (L k))) := by
  have hb2 := below_setRow hb (Nat.le_refl _) (bytesV L B k ++ rest).toArray
  refine ⟨h.step (w1 := w1) hk rfl hb2 ?_ fun j hj => ?_, Below.setCell (hB.trans (hb2.mono hB.size)) (Nat.le_refl _) _⟩
  · have := (Array.getElem?_eq_some_iff.1 hg).1
    simpa using this
  · rw [cell_setRow_same w1 wr.heap.size j cur _ 5 (0, 0) hg]
    have := bytesV_get L B k j hj
    have hl : j < (bytesV L B k).length := by rw [bytesV_length]; exact hj
    rw [← this]
    simp [List.getElem?_append_left hl]

theorem row_src {w : World} {L : Nat → Nat} {B : Nat → Nat → Int} {k g : Nat} (h : ∀ j, j < L k → w.cell? ⟨g, j, none⟩ = some (.int .u8 (B k j))) :
    ∀ ad, some (⟨g, 0, none⟩ : Addr) = some ad → ∀ j u, (bytesV L B k)[j]? = some u → w.cell? (ad.add j) = some u := by
  intro ad had j u hu
  obtain rfl := Option.some.inj had
  have hj : j < L k := by
    have := (List.getElem?_eq_some_iff.1 hu).1
    rwa [bytesV_length] at this
  rw [bytesV_get L B k j hj] at hu
  obtain rfl := Option.some.inj hu
  rw [Addr.add_lit, Nat.zero_add]
  exact h j hj

theorem own_lt {w : World} {B g n c : Nat} {xs : List Value} (h : w.ownsRow B 5 1 (.slice (some ⟨g, 0, none⟩) n c) n xs) : g < w.heap.size := by
  rcases h.2 with ⟨h', _⟩ | ⟨g', cap', cur, h', _, hg, _⟩
  · simp at h'
  · simp only [Value.slice.injEq, Option.some.injEq, Addr.mk.injEq, and_true, true_and] at h'
    obtain ⟨rfl, rfl⟩ := h'
    exact (Array.getElem?_eq_some_iff.1 hg).1

theorem ctr_new (w : World) (s : Int) (b : Bool) : Ctr (w.alloc (.cells #[.int .i64 s, .bool b] 34)) w.heap.size s b :=
  ⟨by rw [World.cell?_alloc_new]; rfl, by rw [World.cell?_alloc_new]; rfl, World.frozen?_alloc_at _ _ _ _ rfl, World.frozen?_alloc_at _ _ _ _ rfl⟩

theorem ctr_next {w : World} {ca k : Nat} {s : Int} {b : Bool} {L : Nat → Nat} {B : Nat → Nat → Int} (h : Ctr w ca (s + cnt (cat L B k) + cnt (piece L B k)) (lastOf (lastOf b (cat L B k)) (piece L B k))) :
    Ctr w ca (s + cnt (cat L B (k + 1))) (lastOf b (cat L B (k + 1))) := by
  have e : (s + cnt (cat L B (k + 1)) : Int) = s + cnt (cat L B k) + cnt (piece L B k) := by
    simp only [cat, cnt_append]
    omega
  rw [e, show cat L B (k + 1) = cat L B k ++ piece L B k from rfl, lastOf_append]
  exact h

set_option maxHeartbeats 4000000 in
set_option maxRecDepth 100000 in
theorem law_row (x : Addr) (n c : Nat) (A : Nat → Option Addr) (L C : Nat → Nat) (B : Nat → Nat → Int) (s : Int) (b : Bool) (w : World) (hn : n ≤ maxLen) (h : Pieces w x n A L C B) (hs : -9223372036854775808 ≤ s ∧ s ≤ 9223372036854775807) :
    Calls Try.prog 3 #[.slice (some x) n c, .int .i64 s, .bool b] w fun e w' => e = .returned (.bool true) ∧ Below w.heap.size w w' := by
  have H : Hid (Pieces w x n A L C B) := h
  clear h
  have ne22 := fun wx => run_neq_slice_nil_any (P := Try.prog) wx 22 24 (some x) n c 0 0 Try.underlying22
  unfold maxLen at hn
  go_enter Try.func3, Try.ntmps3
  go_wp2_with fail
  refine (small_row x n c A L C B s b w (by unfold maxLen; exact hn) H.out).mono ?_
  rintro e w' ⟨⟨r, rfl, hr⟩, hw⟩
  rw [hw]
  clear hw w'
  cases r
  · clear hr
    go_wp2_with fail
    go_ret
    exact ⟨rfl, Below.refl _ _⟩
  · have HL : Hid (∀ i, i < n → L i ≤ 1048576) := hr rfl
    clear hr
    by_cases c1 : n ≤ 1024
    · go_wp2_with fail
      go_loop [7, 8, 9] (fun t z i => ∃ k : Nat, i = .int .i64 k ∧ k ≤ n ∧ z = .int .i64 (cat L B k).length ∧ t = .int .i64 (24 * (n : Int) + (cat L B k).length) ∧ 24 * n + (cat L B k).length ≤ 1048576) (fun _ _ i => n - (intOf i).toNat)
      case atStart => exact ⟨0, rfl, Nat.zero_le _, rfl, by simp [cat], by simp [cat]; omega⟩
      case round =>
        obtain ⟨k, rfl, hk, rfl, rfl, hS⟩ := hrel
        by_cases hlt : k < n
        · have hcell := H.out.head k hlt
          have hLk := HL.out k hlt
          have hcl := cat_length L B k
          have HC : Hid _ := hcl
          clear hcl
          generalize (cat L B k).length = S at *
          by_cases hov : 24 * n + (S + L k) ≤ 1048576
          · go_wp2_with fail
            go_round
            case rel => exact ⟨k + 1, by go_num, by omega, by rw [HC.out]; go_num, by rw [HC.out]; go_num, by rw [HC.out]; exact hov⟩
            case measure => simp [intOf]; omega
          · go_wp2_with fail
            go_ret
            exact ⟨rfl, Below.refl _ _⟩
        · obtain rfl : n = k := by omega
          have HS : Hid (24 * n + (cat L B n).length ≤ 1048576) := hS
          have hS2 : (cat L B n).length ≤ 1048576 := by omega
          clear hS
          by_cases c2 : s < 0
          · go_wp2_with fail
            go_ret
            exact ⟨rfl, Below.refl _ _⟩
          by_cases c3 : 1073741824 < s
          · go_wp2_with fail
            go_ret
            exact ⟨rfl, Below.refl _ _⟩
          obtain ⟨i0, hi, hz0, hz1, hz2⟩ := info_parts info24
          go_wp2_with (at_make; refine wpList_make_full _ rfl _ _ 22 rfl w.heap.size 24 i0 (.slice none 0 0) 1 Try.underlying22 hi hz0 hz1 _ _ _ _ n rfl rfl rfl rfl (by rw [hz2]; omega) (by unfold maxLen; omega) (Nat.le_refl _) ?_)
          intro w1 hown hgrow
          have hB1 : Below w.heap.size w w1 := (Below.refl _ _).grown hgrow (Nat.le_refl _) (fun k h => by cases h)
          have HCp : Hid (Cp w1 w.heap.size n 0 L B) := cp_start hown
          clear hown hgrow hi hz0 hz1 hz2 ne22
          go_wp2_with fail
          go_loopw [11] (fun i wr => ∃ k : Nat, i = .int .i64 k ∧ k ≤ n ∧ Cp wr w.heap.size n k L B ∧ Below w.heap.size w wr) (fun i _ => n - (intOf i).toNat)
          case atStart => exact ⟨0, rfl, Nat.zero_le _, HCp.out, hB1⟩
          case round =>
            obtain ⟨k, rfl, hk, hcp, hB⟩ := hrel
            clear HCp hB1
            by_cases hlt : k < n
            · have hcell : wr.cell? (x.add k) = some (.slice (A k) (L k) (C k)) := (hB.cell (World.block_lt_of_cell? w _ (H.out.head k hlt))).trans (H.out.head k hlt)
              have hLk := HL.out k hlt
              have hnil := H.out.nil k hlt
              have hcells := H.out.cells k hlt
              generalize hAk : A k = a at *
              cases a with
              | none =>
                have ne := fun wx => run_neq_slice_nil_any (P := Try.prog) wx 24 5 none (L k) (C k) 0 0 Try.underlying24
                obtain ⟨z1, z2⟩ := hnil rfl
                have HCp : Hid (Cp wr w.heap.size n (k + 1) L B) := hcp.skip z1
                clear hAk hcells hnil hcp z1 z2
                go_wp2_with fail
                go_roundw
                case rel => exact ⟨k + 1, by go_num, by omega, HCp.out, hB⟩
                case measure => simp [intOf]; omega
              | some y =>
                have ne := fun wx => run_neq_slice_nil_any (P := Try.prog) wx 24 5 (some y) (L k) (C k) 0 0 Try.underlying24
                have hsrc : Hid (∀ j, j < L k → wr.cell? (y.add j) = some (.int .u8 (B k j))) := fun j hj => (hB.cell (World.block_lt_of_cell? w _ (hcells y rfl j hj))).trans (hcells y rfl j hj)
                have Hcp : Hid (Cp wr w.heap.size n k L B) := hcp
                have HBr : Hid (Below w.heap.size w wr) := hB
                have hGr : w.heap.size < wr.heap.size := hcp.lt
                clear hAk hcells hnil hcp hB
                obtain ⟨i5, hi, hz0, hz1, hz2⟩ := info_parts info5
                go_wp2_with (at_make; refine wpList_make_full _ rfl _ _ 24 rfl wr.heap.size 5 i5 (.int .u8 0) 1 Try.underlying24 hi hz0 hz1 _ _ _ _ (L k) rfl rfl rfl rfl (by rw [hz2]; omega) (by unfold maxLen; omega) (Nat.le_refl _) ?_)
                intro w1 hown hgrow
                obtain ⟨cur, hcur, hcs⟩ := cur_of hown
                have hB1 : Below wr.heap.size wr w1 := (Below.refl _ _).grown hgrow (Nat.le_refl _) (fun k h => by cases h)
                have hx1 : w1.cell? (x.add k) = some (.slice (some y) (L k) (C k)) := (hB1.cell (World.block_lt_of_cell? wr _ hcell)).trans hcell
                have HB1 : Hid (Below wr.heap.size wr w1) := hB1
                have hd : ∀ arr, (w1.setRow wr.heap.size arr).cell? ⟨w.heap.size, k, none⟩ = some (.slice none 0 0) := fun arr => store_cell Hcp.out hlt hB1 arr
                have hf : ∀ arr, (w1.setRow wr.heap.size arr).frozen? ⟨w.heap.size, k, none⟩ = false := fun arr => store_free Hcp.out hB1 arr k
                clear hown hgrow hi hz0 hz1 hz2 hB1 hcell
                go_wp2_with (refine wpList_copy_own rfl (.tmp 90) (.tmp 94) 24 24 rfl 5 Try.underlying24 (by kernel_rfl) wr.heap.size 0 (L k) (L k) y (L k) (C k) rfl rfl cur 5 hcur (bytesV L B k) (bytesV_min L B k) (bytesV_src HB1.out hsrc.out) (by rw [bytesV_length, hcs]; omega) (bytesV_one L B k) ?_)
                go_roundw
                case rel => exact ⟨k + 1, by go_num, by omega, (copy_end Hcp.out HBr.out hlt HB1.out hcur _).1, (copy_end Hcp.out HBr.out hlt HB1.out hcur _).2⟩
                case measure => simp [intOf]; omega
            · obtain rfl : n = k := by omega
              obtain ⟨i5, hi, hz0, hz1, hz2⟩ := info_parts info5
              have Hcp : Hid (Cp wr w.heap.size n n L B) := hcp
              clear hcp
              obtain ⟨wc, hwc⟩ : ∃ wc, wc = wr := ⟨_, rfl⟩
              subst hwc
              go_wp2_with (at_make; refine wpList_make_own _ rfl _ _ 24 rfl wc.heap.size 5 i5 (.int .u8 0) 1 Try.underlying24 hi hz0 hz1 _ _ _ (cat L B n).length rfl rfl rfl (by rw [hz2]; omega) (by unfold maxLen; omega) (Nat.le_refl _) ?_)
              intro w2 hown hgrow
              have hB2 : Below wc.heap.size wc w2 := (Below.refl _ _).grown hgrow (Nat.le_refl _) (fun k h => by cases h)
              have Hown : Hid (w2.ownsRow wc.heap.size 5 1 (.slice (some ⟨wc.heap.size, 0, none⟩) 0 (cat L B n).length) 0 []) := hown
              clear hown hgrow
              go_wp2_with fail
              go_loopw [13, 14] (fun v i wq => ∃ k : Nat, i = .int .i64 k ∧ k ≤ n ∧ v = .slice (some ⟨wc.heap.size, 0, none⟩) (cat L B k).length (cat L B n).length ∧
                  wq.ownsRow wc.heap.size 5 1 (.slice (some ⟨wc.heap.size, 0, none⟩) (cat L B k).length (cat L B n).length) (cat L B k).length ((cat L B k).map (Value.int .u8)) ∧ Below wc.heap.size wc wq) (fun _ i _ => n - (intOf i).toNat)
              case atStart => exact ⟨0, rfl, Nat.zero_le _, rfl, Hown.out, hB2⟩
              case round =>
                obtain ⟨k, rfl, hk, rfl, hown, hBq⟩ := hrel
                clear Hown hB2
                by_cases hlt : k < n
                · have HCL : Hid ((cat L B (k + 1)).length = (cat L B k).length + L k) := cat_length L B k
                  have hfit : (cat L B k).length + L k ≤ (cat L B n).length := by rw [← HCL.out]; exact cat_mono L B (k + 1) n (by omega)
                  obtain ⟨p, h1, _, h3, h4⟩ := (Hcp.out.below hBq).ex k hlt
                  cases p with
                  | none =>
                    have hL0 : Hid (L k = 0) := h3 hlt rfl
                    simp only [pv] at h1
                    clear h3 h4
                    have Hown : Hid (wr.ownsRow wc.heap.size 5 1 (.slice (some ⟨wc.heap.size, 0, none⟩) (cat L B k).length (cat L B n).length) (cat L B k).length ((cat L B k).map (Value.int .u8))) := hown
                    clear hown
                    go_wp2_with fail
                    go_roundw
                    case rel =>
                      have e : cat L B (k + 1) = cat L B k := by
                        have : piece L B k = [] := List.eq_nil_of_length_eq_zero (by rw [piece_length]; exact hL0.out)
                        simp [cat, this]
                      exact ⟨k + 1, by go_num, by omega, by rw [e], by rw [e]; exact Hown.out, hBq⟩
                    case measure => simp [intOf]; omega
                  | some g =>
                    obtain ⟨hg1, hg2, hg3⟩ := h4 g rfl
                    simp only [pv] at h1
                    clear h3 h4
                    go_wp2_with (at_builtin; refine wpList_append_fits_any _ rfl (.tmp 109) (.tmp 113) 24 rfl wc.heap.size 5 i5 1 Try.underlying24 hi hz1 wc.heap.size (cat L B k).length (cat L B n).length _ rfl hown (some ⟨g, 0, none⟩) (L k) (L k) (bytesV L B k) rfl (by rw [bytesV_length]; omega) (fun h => by cases h) (row_src hg3) (bytesV_one L B k) hfit ?_)
                    intro w3 hown3 hgrow3
                    have hB3 : Below wc.heap.size wc w3 := hBq.grown hgrow3 hBq.size (fun q hq => by cases hq; exact Nat.le_refl _)
                    have hown4 : w3.ownsRow wc.heap.size 5 1 (.slice (some ⟨wc.heap.size, 0, none⟩) (cat L B (k + 1)).length (cat L B n).length) (cat L B (k + 1)).length ((cat L B (k + 1)).map (Value.int .u8)) := by
                      rw [HCL.out, show (cat L B (k + 1)).map (Value.int .u8) = (cat L B k).map (Value.int .u8) ++ bytesV L B k from by simp [cat, bytesV]]
                      exact hown3
                    have Hown3 : Hid (w3.ownsRow wc.heap.size 5 1 (.slice (some ⟨wc.heap.size, 0, none⟩) (cat L B (k + 1)).length (cat L B n).length) (cat L B (k + 1)).length ((cat L B (k + 1)).map (Value.int .u8))) := hown4
                    clear hown3 hown4 hgrow3 hg3 hown h1
                    go_wp2_with fail
                    go_roundw
                    case rel => exact ⟨k + 1, by go_num, by omega, by rw [HCL.out], Hown3.out, hB3⟩
                    case measure => simp [intOf]; omega
                · obtain rfl : n = k := by omega
                  obtain ⟨wd, hwd⟩ : ∃ wd, wd = wr := ⟨_, rfl⟩
                  subst hwd
                  have hwhole : ∀ j, j < (cat L B n).length → wd.cell? ⟨wc.heap.size, j, none⟩ = some (.int .u8 (el (cat L B n) j)) := fun j hj => by
                    rw [hown.cellAt j (by omega)]
                    simp [el, List.getD_eq_getElem?_getD, hj]
                  have hgw : wc.heap.size < wd.heap.size := own_lt hown
                  clear hown hi hz0 hz1 hz2
                  have HBy : Hid (∀ x ∈ cat L B n, 0 ≤ x ∧ x < 256) := cat_byte L B n H.out.byte
                  generalize hxs : cat L B n = xs at *
                  have Hxs : Hid (cat L B n = xs) := hxs
                  clear hxs
                  have Hw : Hid (∀ j, j < xs.length → wd.cell? ⟨wc.heap.size, j, none⟩ = some (.int .u8 (el xs j))) := hwhole
                  clear hwhole
                  go_wp2_with fail
                  go_loop [15, 16] (fun t i => ∃ k : Nat, i = .int .i64 k ∧ k ≤ xs.length ∧ t = .int .i64 (s + cnt (xs.take k))) (fun _ i => xs.length - (intOf i).toNat)
                  case atStart => exact ⟨0, rfl, Nat.zero_le _, by simp [cnt]⟩
                  case round =>
                    obtain ⟨k, rfl, hk, rfl⟩ := hrel
                    by_cases hlt : k < xs.length
                    · have hcell := Hw.out k hlt
                      have HN : Hid (cnt (xs.take (k + 1)) = cnt (xs.take k) + (if el xs k == 10 then 1 else 0)) := cnt_take_succ xs k hlt
                      have hcl := Nat.le_trans (cnt_le (xs.take k)) (List.length_take_le _ _)
                      generalize cnt (xs.take k) = q at *
                      cases h10 : (el xs k == 10)
                      · have HN' : Hid (cnt (xs.take (k + 1)) = q) := by have := HN.out; rw [h10] at this; show cnt (xs.take (k + 1)) = q; simpa using this
                        go_wp2_with fail
                        go_round
                        case rel => exact ⟨k + 1, by go_num, by omega, by rw [HN'.out]⟩
                        case measure => simp [intOf]; omega
                      · have HN' : Hid (cnt (xs.take (k + 1)) = q + 1) := by have := HN.out; rw [h10] at this; show cnt (xs.take (k + 1)) = q + 1; simpa using this
                        go_wp2_with fail
                        go_round
                        case rel => exact ⟨k + 1, by go_num, by omega, by rw [HN'.out]; go_num⟩
                        case measure => simp [intOf]; omega
                    · obtain rfl : xs.length = k := by omega
                      rw [List.take_length]
                      have hq := cnt_le xs
                      have HS2 : Hid (xs.length ≤ 1048576) := hS2
                      rcases Nat.lt_or_ge 0 xs.length with hz | hz
                      all_goals first
                        | (have hE : (el xs (xs.length - 1) == 10) = lastOf b xs := (lastOf_some b xs _ rfl hz).symm
                           have hcell := Hw.out (xs.length - 1) (by omega))
                        | (have hE : lastOf b xs = b := by rw [show xs = [] from List.eq_nil_of_length_eq_zero (by omega)]; rfl)
                      all_goals
                        go_wp2_with fail
                        refine (ctrAt s b wd).mono ?_
                        rintro e wA ⟨rfl, hwA⟩
                        have hcA : Hid (Ctr wA wd.heap.size s b) := by rw [hwA]; exact ctr_new wd s b
                        have hBA : Below wd.heap.size wd wA := by rw [hwA]; exact (Below.refl _ _).alloc (Nat.le_refl _) _
                        clear hwA
                        go_wp2_with fail
                        go_loopw [19] (fun i wq => ∃ k : Nat, i = .int .i64 k ∧ k ≤ n ∧ Ctr wq wd.heap.size (s + cnt (cat L B k)) (lastOf b (cat L B k)) ∧ Below wd.heap.size wd wq) (fun i _ => n - (intOf i).toNat)
                        case atStart => exact ⟨0, rfl, Nat.zero_le _, by simpa [cat, cnt, lastOf] using hcA.out, hBA⟩
                        case round =>
                          obtain ⟨k, rfl, hk, hctr, hBk⟩ := hrel
                          clear hcA hBA
                          have hGc := Hcp.out.lt
                          have hBc : Below wc.heap.size wc wr := hBq.trans (hBk.mono (by omega))
                          have hk1 : cnt (cat L B k) ≤ 1048576 := by
                            have a := cnt_le (cat L B k)
                            have b := cat_mono L B k n hk
                            rw [Hxs.out] at b
                            have c := HS2.out
                            omega
                          by_cases hlt : k < n
                          · obtain ⟨p, h1, _, h3, h4⟩ := (Hcp.out.below hBc).ex k hlt
                            have hwr : w.heap.size < wr.heap.size := (Hcp.out.below hBc).lt
                            have hLk := HL.out k hlt
                            cases p with
                            | none =>
                              have hp : piece L B k = [] := List.eq_nil_of_length_eq_zero (by rw [piece_length]; exact h3 hlt rfl)
                              simp only [pv] at h1
                              clear h3 h4
                              have Hp : Hid (piece L B k = []) := hp
                              clear hp
                              go_wp2_with fail
                              refine (zwrite wd.heap.size 0 _ [] _ _ wr (write_nil wd.heap.size _ _ wr hctr (by omega) (by omega))).mono ?_
                              rintro e w2 ⟨rfl, hctr2, hgr2⟩
                              have hB2 : Below wd.heap.size wd w2 := hBk.grown hgr2 hBk.size (fun q hq => by cases hq; exact Nat.le_refl _)
                              have h1' : w2.cell? ⟨w.heap.size, k, none⟩ = some (.slice none 0 0) := (World.cell?_of_block (w := wr) (hgr2.block _ hwr (by simp; omega))).trans h1
                              have Hc3 : Hid (Ctr w2 wd.heap.size (s + cnt (cat L B (k + 1))) (lastOf b (cat L B (k + 1)))) := ctr_next (by rw [Hp.out]; exact hctr2)
                              clear hctr hctr2 hgr2 h1
                              go_wp2_with fail
                              go_roundw
                              case rel => exact ⟨k + 1, by go_num, by omega, Hc3.out, hB2⟩
                              case measure => simp [intOf]; omega
                            | some g =>
                              have hgc : g < wc.heap.size := by
                                obtain ⟨p', q1, _, _, q4⟩ := Hcp.out.ex k hlt
                                have e := (hBc.cell (p := ⟨w.heap.size, k, none⟩) hGc).symm.trans h1
                                rw [q1] at e
                                have e2 : pv p' (L k) = pv (some g) (L k) := Option.some.inj e
                                cases p' with
                                | none => simp [pv] at e2
                                | some g' =>
                                  simp [pv] at e2
                                  subst e2
                                  exact (q4 _ rfl).2.1
                              obtain ⟨hg1, hg2, hg3⟩ := h4 g rfl
                              simp only [pv] at h1
                              clear h3 h4
                              have Hg3 : Hid (∀ j, j < L k → wr.cell? ⟨g, j, none⟩ = some (.int .u8 (B k j))) := hg3
                              clear hg3
                              go_wp2_with fail
                              refine (zwrite wd.heap.size (L k) _ (piece L B k) _ _ wr (write_row wd.heap.size g (L k) (L k) (piece L B k) _ _ wr hctr (by omega) (piece_length L B k) hLk (by omega) (by omega) (piece_byte L B k (H.out.byte k hlt)) (fun j hj => by rw [piece_get L B k j hj]; exact Hg3.out j hj))).mono ?_
                              rintro e w2 ⟨rfl, hctr2, hgr2⟩
                              have hB2 : Below wd.heap.size wd w2 := hBk.grown hgr2 hBk.size (fun q hq => by cases hq; exact Nat.le_refl _)
                              have h1' : w2.cell? ⟨w.heap.size, k, none⟩ = some (.slice (some ⟨g, 0, none⟩) (L k) (L k)) := (World.cell?_of_block (w := wr) (hgr2.block _ hwr (by simp; omega))).trans h1
                              have Hc3 : Hid (Ctr w2 wd.heap.size (s + cnt (cat L B (k + 1))) (lastOf b (cat L B (k + 1)))) := ctr_next hctr2
                              clear hctr hctr2 hgr2 h1 Hg3
                              go_wp2_with fail
                              go_roundw
                              case rel => exact ⟨k + 1, by go_num, by omega, Hc3.out, hB2⟩
                              case measure => simp [intOf]; omega
                          · obtain rfl : n = k := by omega
                            rw [Hxs.out] at hctr hk1
                            have Hctr : Hid (Ctr wr wd.heap.size (s + cnt xs) (lastOf b xs)) := hctr
                            have hcd : wd.heap.size < wr.heap.size := World.block_lt_of_cell? wr _ hctr.c0
                            have hBw : Below w.heap.size w wr := hB.trans (hBc.mono hB.size)
                            clear hctr
                            obtain ⟨we, hwe⟩ : ∃ we, we = wr := ⟨_, rfl⟩
                            subst hwe
                            go_wp2_with fail
                            refine (ctrAt s b we).mono ?_
                            rintro e wB ⟨rfl, hwB⟩
                            have hcB : Ctr wB we.heap.size s b := by rw [hwB]; exact ctr_new we s b
                            have hBB : Below we.heap.size we wB := by rw [hwB]; exact (Below.refl _ _).alloc (Nat.le_refl _) _
                            have HBB : Hid (Below we.heap.size we wB) := hBB
                            have HcB : Hid (Ctr wB we.heap.size s b) := hcB
                            clear hwB hcB hBB
                            go_wp2_with fail
                            refine (zwrite we.heap.size xs.length _ xs _ _ wB (write_row we.heap.size wc.heap.size xs.length xs.length xs s b wB HcB.out (by omega) rfl hS2 (by omega) (by omega) HBy.out (fun j hj => ?_))).mono ?_
                            · exact (HBB.out.cell (p := ⟨wc.heap.size, j, none⟩) (by show wc.heap.size < _; omega)).trans ((hBk.cell (p := ⟨wc.heap.size, j, none⟩) hgw).trans (Hw.out j hj))
                            rintro e w5 ⟨rfl, hctr5, hgr5⟩
                            have hB5 : Below we.heap.size we w5 := HBB.out.grown hgr5 HBB.out.size (fun q hq => by cases hq; exact Nat.le_refl _)
                            have a0 : w5.cell? ⟨wd.heap.size, 0, none⟩ = some (.int .i64 (s + cnt xs)) := (hB5.cell (p := ⟨wd.heap.size, 0, none⟩) hcd).trans Hctr.out.c0
                            have a1 : w5.cell? ⟨wd.heap.size, 1, none⟩ = some (.bool (lastOf b xs)) := (hB5.cell (p := ⟨wd.heap.size, 1, none⟩) hcd).trans Hctr.out.c1
                            have b0 := hctr5.c0
                            have b1 := hctr5.c1
                            have HB5 : Hid (Below w.heap.size w w5) := hBw.trans (hB5.mono hBw.size)
                            clear hctr5 hgr5 hB5
                            go_wp2_with fail
                            refine (state wd.heap.size _ _ w5 a0 a1).mono ?_
                            rintro e w6 ⟨rfl, m1, rfl⟩
                            go_wp2_with fail
                            refine (state we.heap.size _ _ _ (by exact b0) (by exact b1)).mono ?_
                            rintro e w7 ⟨rfl, m2, rfl⟩
                            go_wp2_with fail
                            go_ret
                            exact ⟨rfl, below_drewN HB5.out _⟩
    · go_wp2_with fail
      go_ret
      exact ⟨rfl, Below.refl _ _⟩
end Go.Proofs.Qxb6002390a.lc
