/-
  The seat's own text: the closed facts on the program's head word, reckoned word by word (one by one in the kernel the whole head outgrows the memory's lid); the thirty-two closed facts of a row, each by itself.
-/
import Derived.Test.Qxb6600076aRows
import Derived.ProofKit
import Derived.JoinedOf
namespace Go.Proofs.Qxb6600076a
namespace Head

theorem words_nil (r : List Char) : wordsSigns ((Char.ofNat 32) :: r) = [] :: wordsSigns r := rfl
theorem words_step (c : Char) (hc : c ≠ (Char.ofNat 32)) (r w : List Char) (ws : List (List Char)) (h : wordsSigns r = w :: ws) : wordsSigns (c :: r) = (c :: w) :: ws := by
  unfold wordsSigns
  split
  · rename_i e; cases e
  · rename_i e; simp at e; exact absurd e.1 hc
  · rename_i c2 r2 _ e
    simp at e
    obtain ⟨rfl, rfl⟩ := e
    rw [h]
theorem words_app (w r : List Char) (h : ∀ c ∈ w, c ≠ (Char.ofNat 32)) : wordsSigns (w ++ (Char.ofNat 32) :: r) = w :: wordsSigns r := by
  induction w with
  | nil => exact words_nil r
  | cons c w ih =>
    exact words_step c (h c (by simp)) _ _ _ (ih fun x hx => h x (by simp [hx]))
set_option maxRecDepth 100000
/-- The head's first three words, and what follows. -/
def w0 : List Char := [104, 97, 114, 110, 101, 115, 115].map Char.ofNat
def w1 : List Char := [54, 102, 54, 55, 52, 100, 56, 48, 55, 98, 102, 98, 100, 51, 55, 53, 51, 53, 99, 48, 54, 54, 98, 97, 53, 56, 101, 97, 102, 102, 100, 54, 55, 100, 50, 98, 48, 56, 55, 100, 56, 99, 56, 52, 99, 49, 97, 51, 51, 99, 51, 54, 48, 56, 51, 102, 56, 48, 99, 101, 97, 57, 51, 98].map Char.ofNat
def w2 : List Char := [99, 117, 116].map Char.ofNat
def w3 : List Char := [97, 116, 32, 101, 120, 97, 109, 112, 108, 101, 46, 99, 111, 109, 47, 113, 117, 111, 114, 97, 116, 101, 47, 113, 117, 111, 114, 97, 116, 101, 47, 122, 122, 108, 97, 119, 115, 95, 112, 97, 120, 111, 115, 95, 98, 49, 46, 70, 110, 83, 101, 113, 115, 83, 99, 114, 105, 112, 116, 77, 97, 116, 99, 104, 101, 115, 68, 101, 108, 105, 118, 101, 114, 101, 100, 77, 111, 100, 101, 108, 32, 101, 120, 97, 109, 112, 108, 101, 46, 99, 111, 109, 47, 113, 117, 111, 114, 97, 116, 101, 47, 113, 117, 111, 114, 97, 116, 101, 47, 122, 122, 108, 97, 119, 115, 95, 112, 97, 120, 111, 115, 95, 98, 49, 46, 70, 110, 82, 101, 112, 111, 114, 116, 76, 105, 115, 116, 115, 69, 120, 97, 99, 116, 108, 121, 84, 104, 101, 65, 99, 99, 101, 112, 116, 101, 100, 70, 114, 111, 109, 70, 105, 114, 115, 116, 73, 110, 79, 114, 100, 101, 114, 32, 101, 120, 97, 109, 112, 108, 101, 46, 99, 111, 109, 47, 113, 117, 111, 114, 97, 116, 101, 47, 113, 117, 111, 114, 97, 116, 101, 47, 122, 122, 108, 97, 119, 115, 95, 112, 97, 120, 111, 115, 95, 98, 49, 46, 70, 110, 79, 110, 101, 67, 104, 97, 110, 103, 101, 65, 112, 97, 114, 116, 77, 97, 116, 99, 104, 101, 115, 83, 111, 114, 116, 101, 100, 77, 101, 114, 103, 101, 32, 101, 120, 97, 109, 112, 108, 101, 46, 99, 111, 109, 47, 113, 117, 111, 114, 97, 116, 101, 47, 113, 117, 111, 114, 97, 116, 101, 47, 122, 122, 108, 97, 119, 115, 95, 112, 97, 120, 111, 115, 95, 98, 49, 46, 70, 110, 79, 110, 101, 67, 104, 97, 110, 103, 101, 65, 112, 97, 114, 116, 65, 99, 99, 101, 112, 116, 115, 79, 110, 101, 67, 104, 97, 110, 103, 101, 82, 101, 102, 117, 115, 101, 115, 84, 119, 111, 32, 101, 120, 97, 109, 112, 108, 101, 46, 99, 111, 109, 47, 113, 117, 111, 114, 97, 116, 101, 47, 113, 117, 111, 114, 97, 116, 101, 47, 122, 122, 108, 97, 119, 115, 95, 112, 97, 120, 111, 115, 95, 98, 49, 46, 70, 110, 83, 101, 113, 115, 65, 100, 100, 75, 101, 101, 112, 115, 87, 105, 110, 100, 111, 119, 65, 110, 100, 70, 111, 114, 103, 101, 116, 115, 78, 111, 116, 104, 105, 110, 103].map Char.ofNat
theorem head_is : Try.pinned.checked.prog.initOrder = String.ofList (w0 ++ Char.ofNat 32 :: (w1 ++ Char.ofNat 32 :: (w2 ++ Char.ofNat 32 :: w3))) := by kernel_rfl
theorem head_list : Try.pinned.checked.prog.initOrder.toList = w0 ++ Char.ofNat 32 :: (w1 ++ Char.ofNat 32 :: (w2 ++ Char.ofNat 32 :: w3)) := by rw [head_is]; exact String.toList_ofList
theorem n0 : ∀ c ∈ w0, c ≠ (Char.ofNat 32) := by unfold w0; decide
theorem n1 : ∀ c ∈ w1, c ≠ (Char.ofNat 32) := by unfold w1; decide
theorem n2 : ∀ c ∈ w2, c ≠ (Char.ofNat 32) := by unfold w2; decide
theorem head_words : wordsSigns Try.pinned.checked.prog.initOrder.toList = w0 :: w1 :: w2 :: wordsSigns w3 := by
  rw [head_list, words_app w0 _ n0, words_app w1 _ n1, words_app w2 _ n2]
theorem t4 (X : List (List Char)) : behindMainWord (w0 :: w1 :: w2 :: X) = w2 :: X := by kernel_rfl
theorem t5 (X : List (List Char)) : stripLifts liftWords (w2 :: X) = ([], w2 :: X) := by kernel_rfl
theorem t6 : (w2 == "gc".toList) = false := by kernel_rfl
theorem t7 : (w2 == "spec".toList) = false := by kernel_rfl
theorem t11 : (w2 == "cut".toList) = true := by kernel_rfl
theorem t12 : (some w2 == some "carried".toList) = false := by kernel_rfl
theorem cA (X : List (List Char)) : ((w2 == "gc".toList || w2 == "spec".toList) && (X.isEmpty || X.head? == some "stop".toList)) = false := by kernel_rfl
theorem cB (X : List (List Char)) : (w2 == "carried".toList && X.take 2 == ["gc".toList, "cut".toList] && !Try.pinned.checked.prog.laysLater && !Try.pinned.checked.prog.bearsReflect) = false := by kernel_rfl
theorem c1 (X : List (List Char)) : ((stripLifts liftWords (w2 :: X)).2.head? == some "cut".toList) = true := by kernel_rfl
theorem c2 (X : List (List Char)) : ((stripLifts liftWords (w2 :: X)).1.contains "finals" || !Try.pinned.checked.prog.laysLater) = true := by kernel_rfl
theorem c3 (X : List (List Char)) : ((stripLifts liftWords (w2 :: X)).1.contains "reflectrows" || !Try.pinned.checked.prog.bearsReflect) = true := by kernel_rfl
theorem c4 (X : List (List Char)) : ((stripLifts liftWords (w2 :: X)).1.contains "reflectrows" || !(stripLifts liftWords (w2 :: X)).1.contains "leanrows") = true := by kernel_rfl
theorem c5 (X : List (List Char)) : (Try.pinned.checked.prog.doorFits (stripLifts liftWords (w2 :: X)).1) = true := by kernel_rfl
theorem whole (X : List (List Char)) : (((w2 == "gc".toList || w2 == "spec".toList) && (X.isEmpty || X.head? == some "stop".toList)) || (w2 == "carried".toList && X.take 2 == ["gc".toList, "cut".toList] && !Try.pinned.checked.prog.laysLater && !Try.pinned.checked.prog.bearsReflect) ||
    ((stripLifts liftWords (w2 :: X)).2.head? == some "cut".toList &&
      ((stripLifts liftWords (w2 :: X)).1.contains "finals" || !Try.pinned.checked.prog.laysLater) && ((stripLifts liftWords (w2 :: X)).1.contains "reflectrows" || !Try.pinned.checked.prog.bearsReflect) &&
      ((stripLifts liftWords (w2 :: X)).1.contains "reflectrows" || !(stripLifts liftWords (w2 :: X)).1.contains "leanrows") &&
      Try.pinned.checked.prog.doorFits (stripLifts liftWords (w2 :: X)).1)) = true := by rw [cA, cB, c1, c2, c3, c4, c5]; rfl
theorem may_of (P : Program) (c : List Char) (X : List (List Char)) (h : behindMainWord (wordsSigns P.initOrder.toList) = c :: X)
    (hd : (((c == "gc".toList || c == "spec".toList) && (X.isEmpty || X.head? == some "stop".toList)) || (c == "carried".toList && X.take 2 == ["gc".toList, "cut".toList] && !P.laysLater && !P.bearsReflect) ||
    ((stripLifts liftWords (c :: X)).2.head? == some "cut".toList &&
      ((stripLifts liftWords (c :: X)).1.contains "finals" || !P.laysLater) && ((stripLifts liftWords (c :: X)).1.contains "reflectrows" || !P.bearsReflect) &&
      ((stripLifts liftWords (c :: X)).1.contains "reflectrows" || !(stripLifts liftWords (c :: X)).1.contains "leanrows") &&
      P.doorFits (stripLifts liftWords (c :: X)).1)) = true) : P.mayEnter = true := by
  unfold Program.mayEnter
  rw [h]
  exact hd
theorem head_behind : behindMainWord (wordsSigns Try.pinned.checked.prog.initOrder.toList) = w2 :: wordsSigns w3 := by rw [head_words, t4]
theorem lifts_of (P : Program) (c : List Char) (X : List (List Char)) (h : behindMainWord (wordsSigns P.initOrder.toList) = c :: X) (h1 : (some c == some "carried".toList) = false) (h2 : stripLifts liftWords (c :: X) = ([], c :: X)) : P.headLifts = [] ∧ P.liftsFinal = false := by
  have e : P.headLifts = [] := by
    unfold Program.headLifts
    rw [h, h2]
    show (if _ then [] else []) = _
    split <;> rfl
  refine ⟨e, ?_⟩
  unfold Program.liftsFinal
  rw [h, e]
  show ((some c == some "carried".toList && _) || _) = false
  rw [h1]
  rfl
theorem make_of (P : Program) (c : List Char) (X : List (List Char)) (h : behindMainWord (wordsSigns P.initOrder.toList) = c :: X) (h1 : (c == "gc".toList) = false) (h2 : (c == "spec".toList) = false) (h3 : (c == "cut".toList) = true) : P.make = some .cut := by
  unfold Program.make
  rw [h]
  show (if (c == "gc".toList || c == "spec".toList) = true then _ else if (c == "cut".toList || _) = true then _ else _) = _
  rw [h1, h2, h3]
  rfl
theorem may_enter : Try.pinned.checked.prog.mayEnter = true := may_of _ _ _ head_behind (whole _)
theorem lifts_final : Try.pinned.checked.prog.liftsFinal = false := (lifts_of _ _ _ head_behind t12 (t5 _)).2
theorem make_is : Try.pinned.checked.prog.make = some .cut := make_of _ _ _ head_behind t6 t7 t11

/-- The closed facts of a row, out of each by itself. -/
theorem facts_of (P : Program) (f : FuncId) (fn : Func) (s : ChangeSpec) (c : OpenClaim) (h1 : c.wf (OpenSpec.ofChange s) = true) (h2 : laidOutB P = true) (h3 : mapsRowed P = true) (h4 : fn.params.all (P.readableRec ·) = true) (h5 : namedTie P c.named s.vars = true) (h6 : (c.stops == []) = true) (h7 : (P.stops == []) = true) (h8 : (c.knobs == []) = true) (h9 : (P.stopKnobs == []) = true) (h10 : (c.inPlace == P.inPlace f) = true) (h11 : (c.unfollowed == P.unfollowed f) = true) (h12 : (c.recurses == P.recurses f) = true) (h13 : (c.named == P.varsNamed f) = true) (h14 : (c.maps == (fn.params.toList ++ s.plain.varTypes P).any (P.mapsRec ·)) = true) (h15 : (c.ifaces == (fn.params.toList ++ s.plain.varTypes P).any (P.ifacesRec ·)) = true) (h16 : (c.mapsOut == P.mapsAmong fn.resultTypes.toList) = true) (h17 : (c.loops == (fn.params.toList ++ s.plain.varTypes P).any (P.loopsFrom ·)) = true) (h18 : (c.wideKeys == (fn.params.toList ++ s.plain.varTypes P ++ fn.resultTypes.toList).any (P.wideKeysFrom ·)) = true) (h19 : s.vars.all (P.varReadable ·) = true) (h20 : fn.resultTypes.all (fun t => P.readableRec t && decide (t < P.types.size)) = true) (h21 : (c.ifacesOut == fn.resultTypes.toList.any (P.ifacesRec ·)) = true) (h22 : (c.loopsOut == fn.resultTypes.toList.any (P.loopsFrom ·)) = true) (h23 : (c.plainKeys == P.plainKeys) = true) (h24 : c.shortTexts.isNone = true) (h25 : P.stopsHeard = true) (h30 : (c.pinned == c.pinnedBy) = true) (h31 : (c.veiled == (fn.params.toList ++ s.plain.varTypes P ++ fn.resultTypes.toList).any (P.veiledRec ·)) = true) (h32 : c.veiledFits P fn.params.toList (fn.params.toList ++ s.plain.varTypes P ++ fn.resultTypes.toList) = true) (h26 : P.mayEnter = true) (h27 : P.liftsFinal = false) (h27' : c.lifted = false) (h28 : P.make = some .cut) (h28' : c.make = .cut) (h29 : c.domain.isEmpty = true) (h29' : c.kinds = []) : joinedFacts P f fn s c = true := by
  have e27 : (c.lifted == P.liftsFinal) = true := by rw [h27, h27']; rfl
  have e28 : (P.make == some c.make) = true := by rw [h28, h28']; rfl
  have e29 : ∀ z, (c.kinds == (if c.domain.isEmpty = true then [] else z)) = true := by intro z; rw [h29, h29']; rfl
  unfold joinedFacts
  rw [h1, h2, h3, h4, h5, h6, h7, h8, h9, h10, h11, h12, h13, h14, h15, h16, h17, h18, h19, h20, h21, h22, h23, h24, h25, h26, e27, e28, e29, h30, h31, h32]
  rfl
end Head
end Go.Proofs.Qxb6600076a
