/-
  The seat's own text: what holds of a stepBound's memory while cliqueSteps runs.
-/
import Derived.Test.Qxb6000686aNew
namespace Go.Proofs.Qxb6000686a
open Go.RowKit Go.Deep Plain

structure Cq (w wr : World) (sb n Q ba wa eb eo wb wo : Nat) (lf pa le : Value) (E F : Nat → List Nat) (L : Nat) (cd : Value) (wk mk : Int) (X Y : Nat → Int) : Prop where
  bel : Below sb w wr
  st : wr.rowIs sb 52 14 (sbF (.slice (some ⟨eb, eo, none⟩) n n) (.slice (some ⟨wb, wo, none⟩) n n) lf pa le cd (.slice (some ⟨ba, 0, none⟩) n n) (.slice (some ⟨wa, 0, none⟩) n n) L wk mk)
  e : RowsAt wr (sb + 1) Q eb eo n (ints E)
  f : RowsAt wr (sb + 1) Q wb wo n (ints F)
  he : Heads wr eb eo n (ints E)
  hf : Heads wr wb wo n (ints F)
  hba : wr.rowIs ba 3 n (fun j => .int .i64 (X j))
  hwa : wr.rowIs wa 3 n (fun j => .int .i64 (Y j))

section
variable {w wr : World} {sb n Q ba wa eb eo wb wo : Nat} {lf pa le : Value} {E F : Nat → List Nat} {L : Nat} {cd : Value} {wk mk : Int} {X Y : Nat → Int}

theorem Cq.drew (h : Cq w wr sb n Q ba wa eb eo wb wo lf pa le E F L cd wk mk X Y) : Cq w wr.drew sb n Q ba wa eb eo wb wo lf pa le E F L cd wk mk X Y :=
  ⟨h.bel.drew, h.st, h.e.kept fun _ _ _ => rfl, h.f.kept fun _ _ _ => rfl, h.he.kept rfl, h.hf.kept rfl, h.hba, h.hwa⟩
/-- Whatever keeps the blocks that matter keeps it all. -/
theorem Cq.blocks (h : Cq w wr sb n Q ba wa eb eo wb wo lf pa le E F L cd wk mk X Y) {w' : World} (hb : Below sb w w') (hs : w'.heap[sb]? = wr.heap[sb]?) (h1 : ∀ b, sb < b → b < Q → w'.heap[b]? = wr.heap[b]?) (h2 : w'.heap[ba]? = wr.heap[ba]?) (h3 : w'.heap[wa]? = wr.heap[wa]?) :
    Cq w w' sb n Q ba wa eb eo wb wo lf pa le E F L cd wk mk X Y :=
  ⟨hb, h.st.of_block hs, h.e.kept fun b h0 hh => h1 b (by omega) hh, h.f.kept fun b h0 hh => h1 b (by omega) hh, h.he.kept (h1 eb (by have := h.e.1; omega) h.e.2.1), h.hf.kept (h1 wb (by have := h.f.1; omega) h.f.2.1), h.hba.of_block h2, h.hwa.of_block h3⟩
theorem Cq.alloc (h : Cq w wr sb n Q ba wa eb eo wb wo lf pa le E F L cd wk mk X Y) (hQ : Q ≤ ba) (o : Obj) : Cq w (wr.alloc o) sb n Q ba wa eb eo wb wo lf pa le E F L cd wk mk X Y := by
  have h1 := h.st.lt; have h2 := h.hba.lt; have h3 := h.hwa.lt
  exact h.blocks (h.bel.alloc (by omega) _) (blk_alloc_lt _ _ _ h1) (fun b _ hb => blk_alloc_lt _ _ _ (by omega)) (blk_alloc_lt _ _ _ h2) (blk_alloc_lt _ _ _ h3)
theorem Cq.other (h : Cq w wr sb n Q ba wa eb eo wb wo lf pa le E F L cd wk mk X Y) {a : Addr} (v : Value) (hs : sb < a.block) (h1 : Q ≤ a.block) (h2 : a.block ≠ ba) (h3 : a.block ≠ wa) : Cq w (wr.setCell a v) sb n Q ba wa eb eo wb wo lf pa le E F L cd wk mk X Y :=
  h.blocks (h.bel.setCell (by omega) _) (blk_setCell_other _ _ _ _ (by omega)) (fun b _ hb => blk_setCell_other _ _ _ _ (by omega)) (blk_setCell_other _ _ _ _ (by omega)) (blk_setCell_other _ _ _ _ (by omega))
theorem Cq.sb_lt (h : Cq w wr sb n Q ba wa eb eo wb wo lf pa le E F L cd wk mk X Y) : sb < eb ∧ eb < Q ∧ sb < wb ∧ wb < Q := ⟨h.e.1, h.e.2.1, h.f.1, h.f.2.1⟩
theorem Cq.own (h : Cq w wr sb n Q ba wa eb eo wb wo lf pa le E F L cd wk mk X Y) (hb : Q ≤ ba) (hw : Q ≤ wa) {i : Nat} {v cd' : Value} {wk' mk' : Int}
    (hs : (wr.setCell ⟨sb, i, none⟩ v).rowIs sb 52 14 (sbF (.slice (some ⟨eb, eo, none⟩) n n) (.slice (some ⟨wb, wo, none⟩) n n) lf pa le cd' (.slice (some ⟨ba, 0, none⟩) n n) (.slice (some ⟨wa, 0, none⟩) n n) L wk' mk')) :
    Cq w (wr.setCell ⟨sb, i, none⟩ v) sb n Q ba wa eb eo wb wo lf pa le E F L cd' wk' mk' X Y := by
  have h1 := h.sb_lt
  exact ⟨h.bel.setCell (Nat.le_refl _) _, hs, h.e.kept fun b h0 _ => blk_setCell_other _ _ _ _ (by show b ≠ sb; omega), h.f.kept fun b h0 _ => blk_setCell_other _ _ _ _ (by show b ≠ sb; omega),
    h.he.kept (blk_setCell_other _ _ _ _ (by show eb ≠ sb; omega)), h.hf.kept (blk_setCell_other _ _ _ _ (by show wb ≠ sb; omega)), h.hba.setOther (by show ba ≠ sb; omega) _, h.hwa.setOther (by show wa ≠ sb; omega) _⟩
theorem Cq.mark (h : Cq w wr sb n Q ba wa eb eo wb wo lf pa le E F L cd wk mk X Y) (hb : Q ≤ ba) (hw : Q ≤ wa) (m : Int) : Cq w (wr.setCell ⟨sb, 13, none⟩ (.int .i64 m)) sb n Q ba wa eb eo wb wo lf pa le E F L cd wk m X Y :=
  h.own hb hw (sb_set13 h.st m)
theorem Cq.work (h : Cq w wr sb n Q ba wa eb eo wb wo lf pa le E F L cd wk mk X Y) (hb : Q ≤ ba) (hw : Q ≤ wa) (m : Int) : Cq w (wr.setCell ⟨sb, 4, none⟩ (.int .i64 m)) sb n Q ba wa eb eo wb wo lf pa le E F L cd m mk X Y :=
  h.own hb hw (sb_set4 h.st m)
theorem Cq.cands (h : Cq w wr sb n Q ba wa eb eo wb wo lf pa le E F L cd wk mk X Y) (hb : Q ≤ ba) (hw : Q ≤ wa) (v : Value) : Cq w (wr.setCell ⟨sb, 10, none⟩ v) sb n Q ba wa eb eo wb wo lf pa le E F L v wk mk X Y :=
  h.own hb hw (sb_set10 h.st v)
theorem Cq.setX (h : Cq w wr sb n Q ba wa eb eo wb wo lf pa le E F L cd wk mk X Y) (hb : Q ≤ ba) (hne : ba ≠ wa) (c : Nat) (m : Int) :
    Cq w (wr.setCell ⟨ba, c, none⟩ (.int .i64 m)) sb n Q ba wa eb eo wb wo lf pa le E F L cd wk mk (fun j => if j = c then m else X j) Y := by
  have h1 := h.sb_lt
  refine ⟨h.bel.setCell (by show sb ≤ ba; omega) _, h.st.setOther (by show sb ≠ ba; omega) _, h.e.kept fun b _ hb' => blk_setCell_other _ _ _ _ (by show b ≠ ba; omega), h.f.kept fun b _ hb' => blk_setCell_other _ _ _ _ (by show b ≠ ba; omega),
    h.he.kept (blk_setCell_other _ _ _ _ (by show eb ≠ ba; omega)), h.hf.kept (blk_setCell_other _ _ _ _ (by show wb ≠ ba; omega)), (h.hba.set c _).congr fun j _ => ?_, h.hwa.setOther (by show wa ≠ ba; omega) _⟩
  by_cases e : j = c <;> simp [e]
theorem Cq.setY (h : Cq w wr sb n Q ba wa eb eo wb wo lf pa le E F L cd wk mk X Y) (hw : Q ≤ wa) (hne : ba ≠ wa) (c : Nat) (m : Int) :
    Cq w (wr.setCell ⟨wa, c, none⟩ (.int .i64 m)) sb n Q ba wa eb eo wb wo lf pa le E F L cd wk mk X (fun j => if j = c then m else Y j) := by
  have h1 := h.sb_lt
  refine ⟨h.bel.setCell (by show sb ≤ wa; omega) _, h.st.setOther (by show sb ≠ wa; omega) _, h.e.kept fun b _ hb' => blk_setCell_other _ _ _ _ (by show b ≠ wa; omega), h.f.kept fun b _ hb' => blk_setCell_other _ _ _ _ (by show b ≠ wa; omega),
    h.he.kept (blk_setCell_other _ _ _ _ (by show eb ≠ wa; omega)), h.hf.kept (blk_setCell_other _ _ _ _ (by show wb ≠ wa; omega)), h.hba.setOther (by show ba ≠ wa; omega) _, (h.hwa.set c _).congr fun j _ => ?_⟩
  by_cases e : j = c <;> simp [e]
theorem Cq.congrX (h : Cq w wr sb n Q ba wa eb eo wb wo lf pa le E F L cd wk mk X Y) {X' : Nat → Int} (e : X = X') : Cq w wr sb n Q ba wa eb eo wb wo lf pa le E F L cd wk mk X' Y := e ▸ h
theorem Cq.congrY (h : Cq w wr sb n Q ba wa eb eo wb wo lf pa le E F L cd wk mk X Y) {Y' : Nat → Int} (e : Y = Y') : Cq w wr sb n Q ba wa eb eo wb wo lf pa le E F L cd wk mk X Y' := e ▸ h
/-- Edge i of x, in the walk's form. -/
theorem Cq.edge (h : Cq w wr sb n Q ba wa eb eo wb wo lf pa le E F L cd wk mk X Y) {x i b o C : Nat} (hx : x < n) (hc : wr.cell? ⟨eb, eo + x, none⟩ = some (.slice (some ⟨b, o, none⟩) (E x).length C)) (hi : i < (E x).length) : wr.cell? ⟨b, o + i, none⟩ = some (.int .i32 (((E x)[i] : Nat) : Int)) ∧ sb < b ∧ b < Q := by
  obtain ⟨b', o', C', z, hc', hz, e, hb, hb0, _⟩ := h.e.elem hx (by rw [ints_len]; exact hi)
  rw [ints_getD E x i hi] at e
  rw [hc] at hc'
  simp only [Option.some.injEq, Value.slice.injEq, Addr.mk.injEq] at hc'
  obtain ⟨⟨rfl, rfl, _⟩, _, _⟩ := hc'
  exact ⟨by rw [hz, e], by omega, hb⟩
theorem Cq.waiter (h : Cq w wr sb n Q ba wa eb eo wb wo lf pa le E F L cd wk mk X Y) {x i b o C : Nat} (hx : x < n) (hc : wr.cell? ⟨wb, wo + x, none⟩ = some (.slice (some ⟨b, o, none⟩) (F x).length C)) (hi : i < (F x).length) : wr.cell? ⟨b, o + i, none⟩ = some (.int .i32 (((F x)[i] : Nat) : Int)) ∧ sb < b ∧ b < Q := by
  obtain ⟨b', o', C', z, hc', hz, e, hb, hb0, _⟩ := h.f.elem hx (by rw [ints_len]; exact hi)
  rw [ints_getD F x i hi] at e
  rw [hc] at hc'
  simp only [Option.some.injEq, Value.slice.injEq, Addr.mk.injEq] at hc'
  obtain ⟨⟨rfl, rfl, _⟩, _, _⟩ := hc'
  exact ⟨by rw [hz, e], by omega, hb⟩
end

/-! ### The marks -/
def marked (l : List Nat) (m : Int) (X : Nat → Int) : Nat → Int := fun j => if j ∈ l then m else X j
theorem marked_nil (m : Int) (X : Nat → Int) : X = marked [] m X := by funext j; simp [marked]
theorem marked_snoc (l : List Nat) (c : Nat) (m : Int) (X : Nat → Int) : (fun j => if j = c then m else marked l m X j) = marked (l ++ [c]) m X := by
  funext j
  unfold marked
  by_cases h : j = c <;> by_cases h2 : j ∈ l <;> simp [h, h2]
theorem marked_take (l : List Nat) (i : Nat) (hi : i < l.length) (m : Int) (X : Nat → Int) : (fun j => if j = l[i] then m else marked (l.take i) m X j) = marked (l.take (i + 1)) m X := by
  rw [marked_snoc, List.take_succ_eq_append_getElem hi]
theorem marked_full (l : List Nat) (m : Int) (X : Nat → Int) (i : Nat) (h : l.length ≤ i) : marked (l.take i) m X = marked l m X := by rw [List.take_of_length_le h]
theorem marked_eq (l : List Nat) (m : Int) (X : Nat → Int) (c : Nat) (hX : X c < m) : (marked l m X c == m) = l.contains c := by
  unfold marked
  by_cases h : c ∈ l
  · simp [h]
  · rw [if_neg h]
    have h1 : ¬ X c = m := by omega
    simp [h, h1]
theorem marked_le (l : List Nat) (m : Int) (X : Nat → Int) (hX : ∀ j, X j < m) (j : Nat) : marked l m X j ≤ m := by
  unfold marked
  have := hX j
  split <;> omega

/-! ### The candidates -/
/-- Block g holds the candidates cs from its head on. -/
def Cand (w : World) (g cc : Nat) (cs : List Nat) : Prop := cs.length ≤ cc ∧ ∃ h, w.rowIs g 47 cc h ∧ ∀ i (hi : i < cs.length), h i = .int .i32 ((cs[i] : Nat) : Int)
/-- i of them looked at, those that stay (ks) moved to the head. -/
def Sift (w : World) (g cc : Nat) (cs ks : List Nat) (i : Nat) : Prop := cs.length ≤ cc ∧ ks.length ≤ i ∧ ∃ h, w.rowIs g 47 cc h ∧ (∀ j (hj : j < ks.length), h j = .int .i32 ((ks[j] : Nat) : Int)) ∧ ∀ j (hj : j < cs.length), i ≤ j → h j = .int .i32 ((cs[j] : Nat) : Int)
theorem Cand.sift {w : World} {g cc : Nat} {cs : List Nat} (h : Cand w g cc cs) : Sift w g cc cs [] 0 := by
  obtain ⟨h0, f, h1, h2⟩ := h
  exact ⟨h0, Nat.le_refl _, f, h1, fun j hj => absurd hj (by simp), fun j hj _ => h2 j hj⟩
theorem Sift.cell {w : World} {g cc : Nat} {cs ks : List Nat} {i : Nat} (h : Sift w g cc cs ks i) (hi : i < cs.length) : w.cell? ⟨g, i, none⟩ = some (.int .i32 ((cs[i] : Nat) : Int)) := by
  obtain ⟨h0, h1, f, h2, h3, h4⟩ := h
  rw [h2.cell (by omega), h4 i hi (Nat.le_refl _)]
theorem Sift.skip {w : World} {g cc : Nat} {cs ks : List Nat} {i : Nat} (h : Sift w g cc cs ks i) : Sift w g cc cs ks (i + 1) := by
  obtain ⟨h0, h1, f, h2, h3, h4⟩ := h
  exact ⟨h0, by omega, f, h2, h3, fun j hj hij => h4 j hj (by omega)⟩
theorem Sift.keep {w : World} {g cc : Nat} {cs ks : List Nat} {i : Nat} (h : Sift w g cc cs ks i) (hi : i < cs.length) : Sift (w.setCell ⟨g, ks.length, none⟩ (.int .i32 ((cs[i] : Nat) : Int))) g cc cs (ks ++ [cs[i]]) (i + 1) := by
  obtain ⟨h0, h1, f, h2, h3, h4⟩ := h
  refine ⟨h0, by simp; omega, _, h2.set ks.length _, fun j hj => ?_, fun j hj hij => ?_⟩
  · by_cases e : j = ks.length
    · subst e; simp
    · have hj' : j < ks.length := by simp at hj; omega
      rw [if_neg e, h3 j hj', List.getElem_append_left hj']
  · rw [if_neg (by omega)]
    exact h4 j hj (by omega)
theorem Sift.done {w : World} {g cc : Nat} {cs ks : List Nat} {i : Nat} (h : Sift w g cc cs ks i) (hi : i ≤ cs.length) : Cand w g cc ks := by
  obtain ⟨h0, h1, f, h2, h3, _⟩ := h
  exact ⟨by omega, f, h2, h3⟩
theorem Sift.of_block {w w' : World} {g cc : Nat} {cs ks : List Nat} {i : Nat} (h : Sift w g cc cs ks i) (e : w'.heap[g]? = w.heap[g]?) : Sift w' g cc cs ks i := by
  obtain ⟨h0, h1, f, h2, h3⟩ := h
  exact ⟨h0, h1, f, h2.of_block e, h3⟩
theorem Cand.of_block {w w' : World} {g cc : Nat} {cs : List Nat} (h : Cand w g cc cs) (e : w'.heap[g]? = w.heap[g]?) : Cand w' g cc cs := by
  obtain ⟨h0, f, h1, h2⟩ := h
  exact ⟨h0, f, h1.of_block e, h2⟩
theorem cand_own {w : World} {base g cap : Nat} {cs : List Nat} (h : w.ownsRow base 47 1 (.slice (some ⟨g, 0, none⟩) cs.length cap) cs.length (cs.map fun c : Nat => Value.int .i32 (c : Int))) : Cand w g cap cs ∧ base ≤ g ∧ cap ≤ maxLen := by
  rcases h.2 with ⟨h0, _⟩ | ⟨g', cap', cur, hv, hb, hg, hn, hm, hc, ht⟩
  · cases h0
  · simp only [Value.slice.injEq, Option.some.injEq, Addr.mk.injEq] at hv
    obtain ⟨⟨rfl, _, _⟩, _, rfl⟩ := hv
    refine ⟨⟨hn, fun i => cur[i]?.getD (.slice none 0 0), ⟨cur, hg, by omega, fun i hi => ?_⟩, fun i hi => ?_⟩, hb, hm⟩
    · have : i < cur.size := by omega
      simp [this]
    · have hi' : i < cur.size := by omega
      have e : (cur.toList.take (cs.length * 1))[i]? = (cs.map fun c : Nat => Value.int .i32 (c : Int))[i]? := by rw [ht]
      rw [List.getElem?_take, if_pos (by omega)] at e
      simp [hi, hi'] at e ⊢
      exact e
end Go.Proofs.Qxb6000686a
