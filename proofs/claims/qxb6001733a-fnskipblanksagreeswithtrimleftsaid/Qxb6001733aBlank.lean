/-
  Contracts of isBlank, skipBlanks, trimLeft (at the cutset of a space and a tab), zzBytes.
-/
import Derived.Test.Qxb6001733aRunes
namespace Go.Proofs.Qxb6001733a.sb
open Go.RowKit
set_option linter.unusedVariables false

theorem isBlank (c : Int) (w : World) : Calls Try.prog 22 #[.int .i32 c] w fun e w' => e = .returned (.bool (blB c)) ∧ w' = w := by
  by_cases h : (c == 32) = true
  · go_enter Try.func22, Try.ntmps22
    go_wp2
    go_ret
    exact ⟨by simp [blB, h], rfl⟩
  · have h' : (c == 32) = false := by simpa using h
    go_enter Try.func22, Try.ntmps22
    go_wp2
    go_ret
    exact ⟨by simp [blB, h'], rfl⟩

/-- The number at place k (a name: the walk would spell it otherwise). -/
def el (zs : List Int) (k : Nat) : Int := zs.getD k 0

/-- A slice's length, for a measure. -/
def lenOf : Value → Nat | .slice _ m _ => m | _ => 0

/-- r is the first place from p on, below n, that holds no blank; p itself where p is not below n. -/
def Skip (zs : List Int) (n p r : Nat) : Prop := p ≤ r ∧ (∀ j, p ≤ j → j < r → j < n ∧ blB (el zs j) = true) ∧ (r < n → blB (el zs r) = false)

theorem Skip.unique {zs : List Int} {n p r s : Nat} (h : Skip zs n p r) (k : Skip zs n p s) : r = s := by
  obtain ⟨h1, h2, h3⟩ := h
  obtain ⟨k1, k2, k3⟩ := k
  rcases Nat.lt_trichotomy r s with hl | he | hg
  · obtain ⟨a, b⟩ := k2 r h1 hl
    rw [h3 a] at b
    cases b
  · exact he
  · obtain ⟨a, b⟩ := h2 s k1 hg
    rw [k3 a] at b
    cases b

def SkipPost (zs : List Int) (n p : Nat) (e : Ending) : Prop := ∃ r : Nat, e = .returned (.int .i64 r) ∧ Skip zs n p r

theorem skip_nil (p : Nat) (w : World) :
    Calls Try.prog 19 #[.slice none 0 0, .int .i64 p] w fun e w' => SkipPost [] 0 p e ∧ w' = w := by
  go_enter Try.func19, Try.ntmps19
  go_wp2_with fail
  refine wp_loop_rounds 1 ?_
  rw [rounds_succ]
  go_wp2_with fail
  go_ret
  exact ⟨⟨p, rfl, Nat.le_refl _, fun j a b => by omega, fun h => by omega⟩, rfl⟩

set_option maxHeartbeats 1000000 in
theorem skip_row (g n c p : Nat) (zs : List Int) (w : World) (hn : n ≤ 262144) (_hp : p ≤ 9223372036854775807) (hc : ∀ i, i < n → w.cell? ⟨g, i, none⟩ = some (.int .i32 (el zs i))) :
    Calls Try.prog 19 #[.slice (some ⟨g, 0, none⟩) n c, .int .i64 p] w fun e w' => SkipPost zs n p e ∧ w' = w := by
  go_enter Try.func19, Try.ntmps19
  go_wp2_with fail
  go_loop [1] (fun i => ∃ k : Nat, i = .int .i64 k ∧ p ≤ k ∧ ∀ j, p ≤ j → j < k → j < n ∧ blB (el zs j) = true) (fun i => n - (intOf i).toNat)
  case atStart => exact ⟨p, rfl, Nat.le_refl _, fun j a b => by omega⟩
  case round =>
    obtain ⟨k, rfl, hk1, hk2⟩ := hrel
    have HK : Hid _ := hk2
    clear hk2
    by_cases hlt : k < n
    · have hcell := hc k hlt
      have HC : Hid _ := hc
      clear hc
      cases hb : blB (el zs k)
      · go_wp2_with (go_at_call 22; refine (isBlank _ _).mono ?_; rintro e w' ⟨rfl, rfl⟩)
        go_ret
        exact ⟨⟨k, rfl, hk1, HK.out, fun _ => hb⟩, rfl⟩
      · have HN : Hid (∀ j, p ≤ j → j < k + 1 → j < n ∧ blB (el zs j) = true) := by
          intro j a b
          by_cases h : j < k
          · exact HK.out j a h
          · obtain rfl : j = k := by omega
            exact ⟨hlt, hb⟩
        go_wp2_with (go_at_call 22; refine (isBlank _ _).mono ?_; rintro e w' ⟨rfl, rfl⟩)
        go_round
        case rel => exact ⟨k + 1, by go_num, by omega, HN.out⟩
        case measure => simp [intOf]; omega
    · go_wp2_with fail
      go_ret
      exact ⟨⟨k, rfl, hk1, HK.out, fun h => absurd h hlt⟩, rfl⟩

theorem zskip_nil (p : Nat) (w : World) :
    Calls Try.prog 10 #[.slice none 0 0, .int .i64 p] w fun e w' => SkipPost [] 0 p e ∧ w' = w := by
  go_enter Try.func10, Try.ntmps10
  go_wp2_with fail
  refine (skip_nil p w).mono ?_
  rintro e w' ⟨⟨r, rfl, h⟩, rfl⟩
  have H : Hid _ := h
  clear h
  go_wp2_with fail
  go_ret
  exact ⟨⟨r, rfl, H.out⟩, rfl⟩

theorem zskip_row (g n c p : Nat) (zs : List Int) (w : World) (hn : n ≤ 262144) (_hp : p ≤ 9223372036854775807) (hc : ∀ i, i < n → w.cell? ⟨g, i, none⟩ = some (.int .i32 (el zs i))) :
    Calls Try.prog 10 #[.slice (some ⟨g, 0, none⟩) n c, .int .i64 p] w fun e w' => SkipPost zs n p e ∧ w' = w := by
  go_enter Try.func10, Try.ntmps10
  go_wp2_with fail
  refine (skip_row g n c p zs w hn _hp hc).mono ?_
  rintro e w' ⟨⟨r, rfl, h⟩, rfl⟩
  have H : Hid _ := h
  clear h
  go_wp2_with fail
  go_ret
  exact ⟨⟨r, rfl, H.out⟩, rfl⟩

/-- What trimLeft hands back of a row cut at p: the row cut at k. -/
def TrimPost (zs : List Int) (n p : Nat) (e : Ending) : Prop := ∃ (k c : Nat) (a : Option Addr), e = .returned (.slice a (n - k) c) ∧ k ≤ n ∧ Skip zs n p k

/-- Nothing to trim: whatever the address. -/
theorem trim_none (a : Option Addr) (c n p : Nat) (zs : List Int) (w : World) (h : p = n) :
    Calls Try.prog 20 #[.slice a 0 c, .string cut] w fun e w' => TrimPost zs n p e ∧ Below w.heap.size w w' := by
  have H : Hid _ := h
  clear h
  go_enter Try.func20, Try.ntmps20
  go_wp2_with fail
  refine wp_loop_rounds 1 ?_
  rw [rounds_succ]
  go_wp2_with fail
  go_ret
  refine ⟨⟨n, c, a, by simp, Nat.le_refl _, ?_⟩, Below.refl _ _⟩
  have h := H.out
  exact ⟨by omega, fun j x y => by omega, fun z => by omega⟩

set_option maxHeartbeats 1000000 in
theorem trim_row (g n p : Nat) (zs : List Int) (w : World) (hg : g < w.heap.size) (hn : n ≤ 262144) (hp : p < n) (hc : ∀ i, i < n → w.cell? ⟨g, i, none⟩ = some (.int .i32 (el zs i))) :
    Calls Try.prog 20 #[.slice (some ⟨g, p, none⟩) (n - p) (n - p), .string cut] w fun e w' => TrimPost zs n p e ∧ Below w.heap.size w w' := by
  go_enter Try.func20, Try.ntmps20
  go_wp2_with fail
  go_loopw [0] (fun v wr => ∃ (k m c : Nat) (a : Option Addr), v = .slice a m c ∧ m + k = n ∧ p ≤ k ∧ (0 < m → a = some ⟨g, k, none⟩ ∧ c = m) ∧ (∀ j, p ≤ j → j < k → j < n ∧ blB (el zs j) = true) ∧ Below w.heap.size w wr) (fun v _ => lenOf v)
  case atStart => exact ⟨p, n - p, n - p, _, rfl, by omega, Nat.le_refl _, fun _ => ⟨rfl, rfl⟩, fun j a b => by omega, Below.refl _ _⟩
  case round =>
    obtain ⟨k, m, c, a, rfl, hm, hk1, ha, hk2, hB⟩ := hrel
    have HK : Hid _ := hk2
    clear hk2
    by_cases hlt : 0 < m
    · obtain ⟨rfl, rfl⟩ := ha hlt
      have hcell : wr.cell? ⟨g, k, none⟩ = some (.int .i32 (el zs k)) := (hB.cell (p := ⟨g, k, none⟩) hg).trans (hc k (by omega))
      clear ha
      cases hb : blB (el zs k)
      · go_wp2_with (go_at_call 23; refine (containsRune _ _).mono ?_; rintro e w' ⟨rfl, hB2⟩)
        go_ret
        exact ⟨⟨k, c, some ⟨g, k, none⟩, by rw [show n - k = c from by omega]; rfl, by omega, hk1, HK.out, fun _ => hb⟩, hB.trans (hB2.mono hB.size)⟩
      · have HN : Hid (∀ j, p ≤ j → j < k + 1 → j < n ∧ blB (el zs j) = true) := by
          intro j a b
          by_cases h : j < k
          · exact HK.out j a h
          · obtain rfl : j = k := by omega
            exact ⟨by omega, hb⟩
        go_wp2_with (go_at_call 23; refine (containsRune _ _).mono ?_; rintro e w' ⟨rfl, hB2⟩)
        go_roundw
        case rel => exact ⟨k + 1, c - 1, c - 1, _, rfl, by omega, by omega, fun h => ⟨by rw [if_neg (by omega)], rfl⟩, HN.out, hB.trans (hB2.mono hB.size)⟩
        case measure => simp [lenOf]; omega
    · obtain rfl : m = 0 := by omega
      go_wp2_with fail
      go_ret
      exact ⟨⟨k, c, a, by rw [show n - k = 0 from by omega]; rfl, by omega, hk1, HK.out, fun h => by omega⟩, hB⟩

/-- The same behind the package's door: a row cut at p ≤ n. -/
theorem ztrim (v : Value) (n p : Nat) (zs : List Int) (w : World) (h : Calls Try.prog 20 #[v, .string cut] w fun e w' => TrimPost zs n p e ∧ Below w.heap.size w w') :
    Calls Try.prog 14 #[v, .string cut] w fun e w' => TrimPost zs n p e ∧ Below w.heap.size w w' := by
  go_enter Try.func14, Try.ntmps14
  go_wp2_with fail
  refine h.mono ?_
  rintro e w' ⟨⟨k, c, a, rfl, hk, hs⟩, hB⟩
  have H : Hid _ := hs
  clear hs
  go_wp2_with fail
  go_ret
  exact ⟨⟨k, c, a, rfl, hk, H.out⟩, hB⟩

theorem small (a : Option Addr) (n c : Nat) (p : Int) (w : World) (hn : n ≤ maxLen) :
    Calls Try.prog 13 #[.slice a n c, .int .i64 p] w fun e w' => e = .returned (.bool (decide (n ≤ 1048576))) ∧ w' = w := by
  unfold maxLen at hn
  by_cases h : n ≤ 1048576
  · go_enter Try.func13, Try.ntmps13
    go_wp2
    go_ret
    exact ⟨by simp [h], rfl⟩
  · go_enter Try.func13, Try.ntmps13
    go_wp2
    go_ret
    exact ⟨by simp [h], rfl⟩
end Go.Proofs.Qxb6001733a.sb
