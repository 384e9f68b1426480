/-
  The row's closed facts, one by one. The three that read the long head of the dump ('initOrder', 857 signs) are proved over ANY program first: asked at the program itself, the kernel takes 80 s and 11 GB for each.
-/
import Derived.Test.Qxb6001343aRows
import Derived.ProofKit
namespace Go.Proofs.Qxb6001343a.closed

/-- The head's signs, as numbers. -/
def initSigns : List Nat := [104, 97, 114, 110, 101, 115, 115, 32, 102, 55, 102, 54, 101, 97, 51, 98, 49, 50, 99, 97, 51, 54, 48, 101, 97, 55, 99, 56, 54, 51, 49, 52, 49, 54, 53, 50, 48, 49, 102, 55, 101, 97, 50, 55, 99, 53, 99, 48, 52, 101, 49, 101, 54, 49, 100, 50, 57, 55, 97, 55, 99, 50, 49, 52, 53, 48, 100, 57, 97, 50, 99, 54, 32, 99, 117, 116, 32, 97, 116, 32, 101, 120, 97, 109, 112, 108, 101, 46, 99, 111, 109, 47, 118, 101, 115, 116, 119, 114, 105, 103, 104, 116, 47, 118, 101, 115, 116, 119, 114, 105, 103, 104, 116, 47, 122, 122, 108, 97, 119, 115, 95, 105, 110, 116, 101, 114, 110, 97, 108, 95, 121, 97, 109, 108, 95, 98, 49, 46, 70, 110, 67, 108, 111, 115, 105, 110, 103, 66, 114, 97, 99, 107, 101, 116, 76, 97, 110, 100, 115, 79, 110, 65, 67, 108, 111, 115, 101, 114, 32, 101, 120, 97, 109, 112, 108, 101, 46, 99, 111, 109, 47, 118, 101, 115, 116, 119, 114, 105, 103, 104, 116, 47, 118, 101, 115, 116, 119, 114, 105, 103, 104, 116, 47, 122, 122, 108, 97, 119, 115, 95, 105, 110, 116, 101, 114, 110, 97, 108, 95, 121, 97, 109, 108, 95, 98, 49, 46, 70, 110, 67, 108, 111, 115, 105, 110, 103, 66, 114, 97, 99, 107, 101, 116, 83, 101, 101, 115, 79, 110, 108, 121, 85, 112, 84, 111, 73, 116, 115, 65, 110, 115, 119, 101, 114, 32, 101, 120, 97, 109, 112, 108, 101, 46, 99, 111, 109, 47, 118, 101, 115, 116, 119, 114, 105, 103, 104, 116, 47, 118, 101, 115, 116, 119, 114, 105, 103, 104, 116, 47, 122, 122, 108, 97, 119, 115, 95, 105, 110, 116, 101, 114, 110, 97, 108, 95, 121, 97, 109, 108, 95, 98, 49, 46, 70, 110, 67, 108, 111, 115, 105, 110, 103, 66, 114, 97, 99, 107, 101, 116, 83, 104, 105, 102, 116, 73, 110, 118, 97, 114, 105, 97, 110, 116, 32, 101, 120, 97, 109, 112, 108, 101, 46, 99, 111, 109, 47, 118, 101, 115, 116, 119, 114, 105, 103, 104, 116, 47, 118, 101, 115, 116, 119, 114, 105, 103, 104, 116, 47, 122, 122, 108, 97, 119, 115, 95, 105, 110, 116, 101, 114, 110, 97, 108, 95, 121, 97, 109, 108, 95, 98, 49, 46, 70, 110, 73, 109, 112, 108, 105, 99, 105, 116, 75, 101, 121, 80, 108, 97, 105, 110, 75, 101, 121, 70, 105, 101, 108, 100, 115, 32, 101, 120, 97, 109, 112, 108, 101, 46, 99, 111, 109, 47, 118, 101, 115, 116, 119, 114, 105, 103, 104, 116, 47, 118, 101, 115, 116, 119, 114, 105, 103, 104, 116, 47, 122, 122, 108, 97, 119, 115, 95, 105, 110, 116, 101, 114, 110, 97, 108, 95, 121, 97, 109, 108, 95, 98, 49, 46, 70, 110, 73, 109, 112, 108, 105, 99, 105, 116, 75, 101, 121, 78, 101, 101, 100, 115, 65, 67, 111, 108, 111, 110, 32, 101, 120, 97, 109, 112, 108, 101, 46, 99, 111, 109, 47, 118, 101, 115, 116, 119, 114, 105, 103, 104, 116, 47, 118, 101, 115, 116, 119, 114, 105, 103, 104, 116, 47, 122, 122, 108, 97, 119, 115, 95, 105, 110, 116, 101, 114, 110, 97, 108, 95, 121, 97, 109, 108, 95, 98, 49, 46, 70, 110, 73, 109, 112, 108, 105, 99, 105, 116, 75, 101, 121, 82, 101, 97, 100, 115, 79, 110, 108, 121, 73, 116, 115, 76, 105, 110, 101, 32, 101, 120, 97, 109, 112, 108, 101, 46, 99, 111, 109, 47, 118, 101, 115, 116, 119, 114, 105, 103, 104, 116, 47, 118, 101, 115, 116, 119, 114, 105, 103, 104, 116, 47, 122, 122, 108, 97, 119, 115, 95, 105, 110, 116, 101, 114, 110, 97, 108, 95, 121, 97, 109, 108, 95, 98, 49, 46, 70, 110, 80, 108, 97, 105, 110, 69, 110, 100, 83, 116, 97, 121, 115, 79, 110, 84, 104, 101, 76, 105, 110, 101, 32, 101, 120, 97, 109, 112, 108, 101, 46, 99, 111, 109, 47, 118, 101, 115, 116, 119, 114, 105, 103, 104, 116, 47, 118, 101, 115, 116, 119, 114, 105, 103, 104, 116, 47, 122, 122, 108, 97, 119, 115, 95, 105, 110, 116, 101, 114, 110, 97, 108, 95, 121, 97, 109, 108, 95, 98, 49, 46, 70, 110, 80, 108, 97, 105, 110, 69, 110, 100, 70, 108, 111, 119, 78, 111, 76, 111, 110, 103, 101, 114, 32, 101, 120, 97, 109, 112, 108, 101, 46, 99, 111, 109, 47, 118, 101, 115, 116, 119, 114, 105, 103, 104, 116, 47, 118, 101, 115, 116, 119, 114, 105, 103, 104, 116, 47, 122, 122, 108, 97, 119, 115, 95, 105, 110, 116, 101, 114, 110, 97, 108, 95, 121, 97, 109, 108, 95, 98, 49, 46, 70, 110, 80, 108, 97, 105, 110, 69, 110, 100, 75, 101, 121, 67, 97, 99, 104, 101, 65, 103, 114, 101, 101, 115]

theorem initOrder_eq : Try.prog.initOrder = String.ofList (initSigns.map Char.ofNat) := by kernel_rfl
theorem initList : Try.prog.initOrder.toList = initSigns.map Char.ofNat := by rw [initOrder_eq, String.toList_ofList]
def initWords : List (List Char) := wordsSigns (initSigns.map Char.ofNat)
theorem headWord : (behindMainWord initWords).head? = some ['c', 'u', 't'] := by kernel_rfl
theorem initHead : ∃ r, behindMainWord (wordsSigns Try.prog.initOrder.toList) = ['c', 'u', 't'] :: r := by
  rw [initList]
  have h := headWord
  unfold initWords at h
  generalize behindMainWord (wordsSigns (initSigns.map Char.ofNat)) = l at h
  cases l with
  | nil => simp at h
  | cons a r => simp at h; exact ⟨r, by rw [h]⟩

theorem make_of (P : Program) (r : List (List Char)) (hr : behindMainWord (wordsSigns P.initOrder.toList) = ['c', 'u', 't'] :: r) : P.make = some .cut := by
  unfold Program.make
  rw [hr]
  rfl

theorem lifts_of (P : Program) (r : List (List Char)) (hr : behindMainWord (wordsSigns P.initOrder.toList) = ['c', 'u', 't'] :: r) : P.liftsFinal = false := by
  unfold Program.liftsFinal Program.headLifts
  rw [hr]
  rfl

theorem enter_of (P : Program) (r : List (List Char)) (hr : behindMainWord (wordsSigns P.initOrder.toList) = ['c', 'u', 't'] :: r)
    (h1 : P.laysLater = false) (h2 : P.bearsReflect = false) (h3 : P.doorFits [] = true) : P.mayEnter = true := by
  unfold Program.mayEnter
  rw [hr]
  have e : stripLifts liftWords (['c', 'u', 't'] :: r) = ([], ['c', 'u', 't'] :: r) := rfl
  simp only [e, h1, h2, h3]
  rfl

theorem joined_of (P : Program) (f : FuncId) (fn : Func) (s : ChangeSpec) (c : OpenClaim)
    (k1 : c.wf (OpenSpec.ofChange s) = true) (k2 : laidOutB P = true) (k3 : mapsRowed P = true) (k4 : fn.params.all (P.readableRec ·) = true)
    (k5 : namedTie P c.named s.vars = true) (k6 : ((c.stops == []) && (P.stops == []) && (c.knobs == []) && (P.stopKnobs == [])) = true)
    (k10 : (c.inPlace == P.inPlace f) = true) (k11 : (c.unfollowed == P.unfollowed f) = true) (k12 : (c.recurses == P.recurses f) = true) (k13 : (c.named == P.varsNamed f) = true)
    (k14 : (c.maps == (fn.params.toList ++ s.plain.varTypes P).any (P.mapsRec ·)) = true) (k15 : (c.ifaces == (fn.params.toList ++ s.plain.varTypes P).any (P.ifacesRec ·)) = true) (k16 : (c.mapsOut == P.mapsAmong fn.resultTypes.toList) = true)
    (k17 : (c.loops == (fn.params.toList ++ s.plain.varTypes P).any (P.loopsFrom ·)) = true) (k17b : (c.wideKeys == (fn.params.toList ++ s.plain.varTypes P ++ fn.resultTypes.toList).any (P.wideKeysFrom ·)) = true)
    (k18 : s.vars.all (P.varReadable ·) = true) (k19 : fn.resultTypes.all (fun t => P.readableRec t && decide (t < P.types.size)) = true)
    (k20 : (c.ifacesOut == fn.resultTypes.toList.any (P.ifacesRec ·)) = true) (k21 : (c.loopsOut == fn.resultTypes.toList.any (P.loopsFrom ·)) = true)
    (k22 : (c.plainKeys == P.plainKeys) = true) (k23 : c.shortTexts.isNone = true) (k23b : P.stopsHeard = true)
    (k24 : P.mayEnter = true) (k24b : P.liftsFinal = c.lifted) (k24c : P.make = some c.make)
    (k25 : (c.kinds == (if c.domain.isEmpty then [] else fn.params.toList.map fun t => match P.underlying t with | some (.int k) => some k | _ => none)) = true) (k26 : (c.pinned == c.pinnedBy) = true)
    (k27 : (c.veiled == (fn.params.toList ++ s.plain.varTypes P ++ fn.resultTypes.toList).any (P.veiledRec ·)) = true)
    (k28 : c.veiledFits P fn.params.toList (fn.params.toList ++ s.plain.varTypes P ++ fn.resultTypes.toList) = true) : joinedFacts P f fn s c = true := by
  simp only [Bool.and_eq_true] at k6
  unfold joinedFacts
  rw [k24b, k24c]
  simp only [Bool.and_eq_true]
  exact ⟨⟨⟨⟨⟨⟨⟨⟨⟨⟨⟨⟨⟨⟨⟨⟨⟨⟨⟨⟨⟨⟨⟨⟨⟨⟨⟨⟨⟨⟨⟨k1, k2⟩, k3⟩, k4⟩, k5⟩, k6.1.1.1⟩, k6.1.1.2⟩, k6.1.2⟩, k6.2⟩, k10⟩, k11⟩, k12⟩, k13⟩, k14⟩, k15⟩, k16⟩, k17⟩, k17b⟩, k18⟩, k19⟩, k20⟩, k21⟩, k22⟩, k23⟩, k23b⟩, k24⟩, by simp⟩, by simp⟩, k25⟩, k26⟩, k27⟩, k28⟩

theorem enter : Try.prog.mayEnter = true := by
  obtain ⟨r, hr⟩ := initHead
  exact enter_of _ r hr (by kernel_rfl) (by kernel_rfl) (by kernel_rfl)
theorem lifts : Try.prog.liftsFinal = false := by
  obtain ⟨r, hr⟩ := initHead
  exact lifts_of _ r hr
theorem make : Try.prog.make = some .cut := by
  obtain ⟨r, hr⟩ := initHead
  exact make_of _ r hr

theorem joined : joinedFacts Try.prog 9 Try.f9 Rows.fnPlainEndStaysOnTheLineSpec Rows.fnPlainEndStaysOnTheLineRow = true :=
  joined_of _ _ _ _ _ (by kernel_rfl) (by kernel_rfl) (by kernel_rfl) (by kernel_rfl) (by kernel_rfl) (by kernel_rfl) (by kernel_rfl) (by kernel_rfl) (by kernel_rfl) (by kernel_rfl) (by kernel_rfl) (by kernel_rfl) (by kernel_rfl) (by kernel_rfl) (by kernel_rfl) (by kernel_rfl) (by kernel_rfl) (by kernel_rfl) (by kernel_rfl) (by kernel_rfl) (by kernel_rfl) (by kernel_rfl) enter lifts make (by kernel_rfl) (by kernel_rfl) (by kernel_rfl) (by kernel_rfl)
end Go.Proofs.Qxb6001343a.closed
