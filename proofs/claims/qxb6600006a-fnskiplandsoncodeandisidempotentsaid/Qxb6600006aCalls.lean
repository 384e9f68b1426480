/-
  What is known of the lexer in memory; contracts of the calls that skip makes.
-/
import Derived.Test.Qxb6600006aRows
import Derived.Test.Qxb6600006aShelf
import Derived.Test.Qxb6600006aPlain
import Derived.WalkKit
import Derived.WalkSpells
import Derived.WalkLawsBesides
import Derived.Lib.SlBytesConst
import Derived.Deep.QuietTactic
import Derived.BigQuiet
import Derived.BigRegion
import Derived.Deep.RegionWith
import Derived.Outline
namespace Go.Proofs.Qxb6600006a.sk
open Go.RowKit
set_option linter.unusedVariables false

/-- The text: N bytes at block g, below the lexer's block lb; the library's variable holds some number. -/
structure Txt (w0 : World) (lb g N : Nat) (T : Nat → Int) (m : Int) : Prop where
  glt : g < lb
  nle : N ≤ 1048576
  byte : ByteT T N
  cell : ∀ j, j < N → w0.cell? ⟨g, j, none⟩ = some (.int .u8 (T j))
  max : w0.cell? ⟨0, 0, none⟩ = some (.int .i64 m)
  lb0 : 0 < lb

/-- The lexer at block lb, as it stands in W; below lb all is as in w0. -/
structure Lx (w0 W : World) (lb g N p : Nat) (c : Bool) : Prop where
  ct : W.cell? ⟨lb, 0, none⟩ = some (.slice (some ⟨g, 0, none⟩) N N)
  cp : W.cell? ⟨lb, 1, none⟩ = some (.int .i64 p)
  cc : W.cell? ⟨lb, 2, none⟩ = some (.bool c)
  f1 : W.frozen? ⟨lb, 1, none⟩ = false
  f2 : W.frozen? ⟨lb, 2, none⟩ = false
  lt : lb < W.heap.size
  b : Below lb w0 W

theorem Lx.of_below {w0 W W' : World} {lb g N p : Nat} {c : Bool} (h : Lx w0 W lb g N p c) (hb : Below W.heap.size W W') : Lx w0 W' lb g N p c where
  ct := (hb.cell (p := ⟨lb, 0, none⟩) h.lt).trans h.ct
  cp := (hb.cell (p := ⟨lb, 1, none⟩) h.lt).trans h.cp
  cc := (hb.cell (p := ⟨lb, 2, none⟩) h.lt).trans h.cc
  f1 := (hb.frozen (p := ⟨lb, 1, none⟩) h.lt).trans h.f1
  f2 := (hb.frozen (p := ⟨lb, 2, none⟩) h.lt).trans h.f2
  lt := Nat.lt_of_lt_of_le h.lt hb.size
  b := h.b.trans (hb.mono (Nat.le_of_lt h.lt))

theorem Lx.drewN {w0 W : World} {lb g N p : Nat} {c : Bool} (h : Lx w0 W lb g N p c) (n : Nat) : Lx w0 (W.drewN n) lb g N p c := h.of_below (below_drewN (Below.refl _ _) _)
theorem Lx.alloc {w0 W : World} {lb g N p : Nat} {c : Bool} (h : Lx w0 W lb g N p c) (o : Obj) : Lx w0 (W.alloc o) lb g N p c := h.of_below ((Below.refl _ _).alloc (Nat.le_refl _) _)

theorem Lx.setP {w0 W : World} {lb g N p q : Nat} {c : Bool} (h : Lx w0 W lb g N p c) : Lx w0 (W.setCell ⟨lb, 1, none⟩ (.int .i64 q)) lb g N q c where
  ct := (World.cell?_setCell_other _ _ _ _ (by simp)).trans h.ct
  cp := World.cell?_setCell_same _ _ _ h.cp
  cc := (World.cell?_setCell_other _ _ _ _ (by simp)).trans h.cc
  f1 := (World.frozen?_setCell _ _ _ _).trans h.f1
  f2 := (World.frozen?_setCell _ _ _ _).trans h.f2
  lt := by simpa [World.setCell] using h.lt
  b := h.b.setCell (Nat.le_refl _) _

theorem Lx.setC {w0 W : World} {lb g N p : Nat} {c d : Bool} (h : Lx w0 W lb g N p c) : Lx w0 (W.setCell ⟨lb, 2, none⟩ (.bool d)) lb g N p d where
  ct := (World.cell?_setCell_other _ _ _ _ (by simp)).trans h.ct
  cp := (World.cell?_setCell_other _ _ _ _ (by simp)).trans h.cp
  cc := World.cell?_setCell_same _ _ _ h.cc
  f1 := (World.frozen?_setCell _ _ _ _).trans h.f1
  f2 := (World.frozen?_setCell _ _ _ _).trans h.f2
  lt := by simpa [World.setCell] using h.lt
  b := h.b.setCell (Nat.le_refl _) _

theorem Lx.text {w0 W : World} {lb g N p : Nat} {c : Bool} {T : Nat → Int} {m : Int} (h : Lx w0 W lb g N p c) (ht : Txt w0 lb g N T m) (j : Nat) (hj : j < N) : W.cell? ⟨g, j, none⟩ = some (.int .u8 (T j)) :=
  (h.b.cell (p := ⟨g, j, none⟩) ht.glt).trans (ht.cell j hj)

/-- bytes.HasPrefix of the rest of the text, the prefix in a new row. -/
theorem hasP {w0 W : World} {lb g N p q : Nat} {c : Bool} {T : Nat → Int} {m : Int} (ht : Txt w0 lb g N T m) (h : Lx w0 W lb g N q c) (hp : p ≤ N) (ys : List Int) (C : Array Value) (k : Nat) (hk : ys.length = k) (hC : ∀ i, i < k → C[i]? = some (.int .u8 (ys.getD i 0))) (hy : ∀ y ∈ ys, 0 ≤ y ∧ y < 256) (fr : Nat × Nat) :
    Calls Try.prog 15 #[.slice (some ⟨g, p, none⟩) (N - p) (N - p), .slice (some ⟨W.heap.size, 0, none⟩) k k] (W.alloc (.cells C 5 fr)) fun e w' => e = .returned (.bool (pref T N p ys)) ∧ Lx w0 w' lb g N q c := by
  have hA := h.alloc (.cells C 5 fr)
  rw [← hasPrefix_pref T N ht.byte ys p hy]
  refine (Try.bytes_HasPrefix g p (N - p) (N - p) W.heap.size 0 k k (restL T N p) ys _ (restL_length T N p) hk (Nat.le_refl _) (fun i hi => ?_) (fun i hi => ?_)).mono fun e w' ⟨h1, h2⟩ => ⟨h1, by rw [h2]; exact hA⟩
  · rw [restL_get T N p i hi]
    exact hA.text ht (p + i) (by omega)
  · rw [World.cell?_alloc_mark, Nat.zero_add]
    exact hC i hi

theorem hasP2 {w0 W : World} {lb g N p q : Nat} {c : Bool} {T : Nat → Int} {m : Int} (ht : Txt w0 lb g N T m) (h : Lx w0 W lb g N q c) (hp : p ≤ N) (a b : Int) (ha : 0 ≤ a ∧ a < 256) (hb : 0 ≤ b ∧ b < 256) :
    Calls Try.prog 15 #[.slice (some ⟨g, p, none⟩) (N - p) (N - p), .slice (some ⟨W.heap.size, 0, none⟩) 2 2] (W.alloc (.cells #[.int .u8 a, .int .u8 b] 5 (2, 3))) fun e w' => e = .returned (.bool (pref T N p [a, b])) ∧ Lx w0 w' lb g N q c :=
  hasP ht h hp [a, b] _ 2 rfl (fun i hi => by match i, hi with | 0, _ => rfl | 1, _ => rfl) (fun y hy => by simp at hy; omega) _

theorem hasP3 {w0 W : World} {lb g N p q : Nat} {c : Bool} {T : Nat → Int} {m : Int} (ht : Txt w0 lb g N T m) (h : Lx w0 W lb g N q c) (hp : p ≤ N) (x y z : Int) (hx : 0 ≤ x ∧ x < 256) (hy : 0 ≤ y ∧ y < 256) (hz : 0 ≤ z ∧ z < 256) :
    Calls Try.prog 15 #[.slice (some ⟨g, p, none⟩) (N - p) (N - p), .slice (some ⟨W.heap.size, 0, none⟩) 3 3] (W.alloc (.cells #[.int .u8 x, .int .u8 y, .int .u8 z] 5 (3, 4))) fun e w' => e = .returned (.bool (pref T N p [x, y, z])) ∧ Lx w0 w' lb g N q c :=
  hasP ht h hp [x, y, z] _ 3 rfl (fun i hi => by match i, hi with | 0, _ => rfl | 1, _ => rfl | 2, _ => rfl) (fun y hy => by simp at hy; omega) _

theorem hasP4 {w0 W : World} {lb g N p q : Nat} {c : Bool} {T : Nat → Int} {m : Int} (ht : Txt w0 lb g N T m) (h : Lx w0 W lb g N q c) (hp : p ≤ N) (x y z u : Int) (hx : 0 ≤ x ∧ x < 256) (hy : 0 ≤ y ∧ y < 256) (hz : 0 ≤ z ∧ z < 256) (hu : 0 ≤ u ∧ u < 256) :
    Calls Try.prog 15 #[.slice (some ⟨g, p, none⟩) (N - p) (N - p), .slice (some ⟨W.heap.size, 0, none⟩) 4 4] (W.alloc (.cells #[.int .u8 x, .int .u8 y, .int .u8 z, .int .u8 u] 5 (4, 5))) fun e w' => e = .returned (.bool (pref T N p [x, y, z, u])) ∧ Lx w0 w' lb g N q c :=
  hasP ht h hp [x, y, z, u] _ 4 rfl (fun i hi => by match i, hi with | 0, _ => rfl | 1, _ => rfl | 2, _ => rfl | 3, _ => rfl) (fun y hy => by simp at hy; omega) _

/-- What IndexByte answers on the rest, under a name. -/
def ixB (T : Nat → Int) (N p : Nat) (c : Int) : Int := Lib.indexByte (Lib.bytesOf (restL T N p)) c.toNat.toUInt8

theorem indexB {w0 W : World} {lb g N p q : Nat} {c : Bool} {T : Nat → Int} {m : Int} (ht : Txt w0 lb g N T m) (h : Lx w0 W lb g N q c) (hp : p ≤ N) (v : Int) :
    Calls Try.prog 16 #[.slice (some ⟨g, p, none⟩) (N - p) (N - p), .int .u8 v] W fun e w' => e = .returned (.int .i64 (ixB T N p v)) ∧ w' = W :=
  Try.bytes_IndexByte g p (N - p) (N - p) (restL T N p) v W (restL_length T N p) fun i hi => by
    rw [restL_get T N p i hi]
    exact h.text ht (p + i) (by omega)

/-- What bytes.Index answers on the rest behind two bytes. -/
def ixP (T : Nat → Int) (N p : Nat) : Int := Lib.index (Lib.bytesOf (restL T N (p + 2))) (Lib.bytesOf [42, 47])

theorem ixP_cases (T : Nat → Int) (N p : Nat) : ixP T N p = -1 ∨ ∃ i : Nat, ixP T N p = i ∧ i + 2 ≤ N - (p + 2) := by
  rcases index_cases (Lib.bytesOf (restL T N (p + 2))) (Lib.bytesOf [42, 47]) (by simp [Lib.bytesOf]) with h | ⟨i, h, hl⟩
  · exact .inl h
  · refine .inr ⟨i, h, ?_⟩
    simpa [Lib.bytesOf, restL_length] using hl

theorem indexP {w0 W : World} {lb g N p q : Nat} {c : Bool} {T : Nat → Int} {m : Int} (ht : Txt w0 lb g N T m) (h : Lx w0 W lb g N q c) (hp : p + 2 ≤ N) (a : Addr) (l : Nat) (hl : l = N - (p + 2)) (ha : 0 < l → a = ⟨g, p + 2, none⟩) :
    Calls Try.prog 18 #[.slice (some a) l l, .slice (some ⟨W.heap.size, 0, none⟩) 2 2] (W.alloc (.cells #[.int .u8 42, .int .u8 47] 5 (2, 3))) fun e w' => e = .returned (.int .i64 (ixP T N p)) ∧ Lx w0 w' lb g N q c := by
  have hA := h.alloc (.cells #[.int .u8 42, .int .u8 47] 5 (2, 3))
  subst hl
  refine (Try.bytes_Index_at a ⟨W.heap.size, 0, none⟩ _ _ 2 2 (restL T N (p + 2)) [42, 47] m _ (restL_length T N (p + 2)) rfl (restL_byte T N (p + 2) ht.byte) (fun y hy => by simp at hy; omega) (fun i hi => ?_) (fun i hi => ?_) (Nat.le_refl _) (by have := ht.nle; omega) (by omega) ?_).mono fun e w' ⟨h1, q, h2⟩ => ⟨h1, by rw [h2]; exact hA.drewN q⟩
  · rw [ha (by omega), Addr.add_lit, restL_get T N (p + 2) i hi]
    exact hA.text ht (p + 2 + i) (by omega)
  · rw [Addr.add_lit, World.cell?_alloc_mark, Nat.zero_add]
    match i, hi with
    | 0, _ => rfl
    | 1, _ => rfl
  · exact (hA.b.cell (p := ⟨0, 0, none⟩) ht.lb0).trans ht.max

/-- A digit. -/
def dgB (c : Int) : Bool := decide (48 ≤ c) && decide (c ≤ 57)

theorem isDigit (c : Int) (w : World) : Calls Try.prog 17 #[.int .u8 c] w fun e w' => e = .returned (.bool (dgB c)) ∧ w' = w := by
  by_cases h : 48 ≤ c
  · go_enter Try.func17, Try.ntmps17
    go_wp2
    go_ret
    exact ⟨by simp [dgB, h], rfl⟩
  · have h' : decide (48 ≤ c) = false := by simpa using h
    go_enter Try.func17, Try.ntmps17
    go_wp2
    go_ret
    exact ⟨by simp [dgB, h'], rfl⟩

theorem small (a : Option Addr) (n c : Nat) (p : Int) (b : Bool) (w : World) (hn : n ≤ maxLen) :
    Calls Try.prog 6 #[.slice a n c, .int .i64 p, .bool b] w fun e w' => e = .returned (.bool (decide (n ≤ 1048576))) ∧ w' = w := by
  unfold maxLen at hn
  by_cases h : n ≤ 1048576
  · go_enter Try.func6, Try.ntmps6
    go_wp2
    go_ret
    exact ⟨by simp [h], rfl⟩
  · go_enter Try.func6, Try.ntmps6
    go_wp2
    go_ret
    exact ⟨by simp [h], rfl⟩
end Go.Proofs.Qxb6600006a.sk
