/-
  The seat's own text: ZZNewStepBound lays a fresh stepBound over two tables.
-/
import Derived.Test.Qxb6000686aRev
import Derived.Deep.Cut
namespace Go.Proofs.Qxb6000686a
open Go.RowKit Go.Deep Plain

/-- The fourteen cells of a stepBound. -/
def sbF (e wt lf pa le cd ba wa : Value) (L wk mk : Int) : Nat → Value
  | 0 => e
  | 1 => wt
  | 2 => .int .i64 L
  | 3 => .slice none 0 0
  | 4 => .int .i64 wk
  | 5 => lf
  | 6 => .slice none 0 0
  | 7 => .slice none 0 0
  | 8 => pa
  | 9 => le
  | 10 => cd
  | 11 => ba
  | 12 => wa
  | 13 => .int .i64 mk
  | _ => .slice none 0 0

section
variable {w : World} {s : Nat} {e wt lf pa le cd ba wa : Value} {L wk mk : Int}
theorem sb_set0 (h : w.rowIs s 52 14 (sbF e wt lf pa le cd ba wa L wk mk)) (v : Value) : (w.setCell ⟨s, 0, none⟩ v).rowIs s 52 14 (sbF v wt lf pa le cd ba wa L wk mk) :=
  (h.set 0 v).congr fun j _ => by match j with | 0 | 1 | 2 | 3 | 4 | 5 | 6 | 7 | 8 | 9 | 10 | 11 | 12 | 13 => rfl | k + 14 => simp [sbF]
theorem sb_set1 (h : w.rowIs s 52 14 (sbF e wt lf pa le cd ba wa L wk mk)) (v : Value) : (w.setCell ⟨s, 1, none⟩ v).rowIs s 52 14 (sbF e v lf pa le cd ba wa L wk mk) :=
  (h.set 1 v).congr fun j _ => by match j with | 0 | 1 | 2 | 3 | 4 | 5 | 6 | 7 | 8 | 9 | 10 | 11 | 12 | 13 => rfl | k + 14 => simp [sbF]
theorem sb_set4 (h : w.rowIs s 52 14 (sbF e wt lf pa le cd ba wa L wk mk)) (x : Int) : (w.setCell ⟨s, 4, none⟩ (.int .i64 x)).rowIs s 52 14 (sbF e wt lf pa le cd ba wa L x mk) :=
  (h.set 4 (.int .i64 x)).congr fun j _ => by match j with | 0 | 1 | 2 | 3 | 4 | 5 | 6 | 7 | 8 | 9 | 10 | 11 | 12 | 13 => rfl | k + 14 => simp [sbF]
theorem sb_set5 (h : w.rowIs s 52 14 (sbF e wt lf pa le cd ba wa L wk mk)) (v : Value) : (w.setCell ⟨s, 5, none⟩ v).rowIs s 52 14 (sbF e wt v pa le cd ba wa L wk mk) :=
  (h.set 5 v).congr fun j _ => by match j with | 0 | 1 | 2 | 3 | 4 | 5 | 6 | 7 | 8 | 9 | 10 | 11 | 12 | 13 => rfl | k + 14 => simp [sbF]
theorem sb_set8 (h : w.rowIs s 52 14 (sbF e wt lf pa le cd ba wa L wk mk)) (v : Value) : (w.setCell ⟨s, 8, none⟩ v).rowIs s 52 14 (sbF e wt lf v le cd ba wa L wk mk) :=
  (h.set 8 v).congr fun j _ => by match j with | 0 | 1 | 2 | 3 | 4 | 5 | 6 | 7 | 8 | 9 | 10 | 11 | 12 | 13 => rfl | k + 14 => simp [sbF]
theorem sb_set9 (h : w.rowIs s 52 14 (sbF e wt lf pa le cd ba wa L wk mk)) (v : Value) : (w.setCell ⟨s, 9, none⟩ v).rowIs s 52 14 (sbF e wt lf pa v cd ba wa L wk mk) :=
  (h.set 9 v).congr fun j _ => by match j with | 0 | 1 | 2 | 3 | 4 | 5 | 6 | 7 | 8 | 9 | 10 | 11 | 12 | 13 => rfl | k + 14 => simp [sbF]
theorem sb_set10 (h : w.rowIs s 52 14 (sbF e wt lf pa le cd ba wa L wk mk)) (v : Value) : (w.setCell ⟨s, 10, none⟩ v).rowIs s 52 14 (sbF e wt lf pa le v ba wa L wk mk) :=
  (h.set 10 v).congr fun j _ => by match j with | 0 | 1 | 2 | 3 | 4 | 5 | 6 | 7 | 8 | 9 | 10 | 11 | 12 | 13 => rfl | k + 14 => simp [sbF]
theorem sb_set11 (h : w.rowIs s 52 14 (sbF e wt lf pa le cd ba wa L wk mk)) (v : Value) : (w.setCell ⟨s, 11, none⟩ v).rowIs s 52 14 (sbF e wt lf pa le cd v wa L wk mk) :=
  (h.set 11 v).congr fun j _ => by match j with | 0 | 1 | 2 | 3 | 4 | 5 | 6 | 7 | 8 | 9 | 10 | 11 | 12 | 13 => rfl | k + 14 => simp [sbF]
theorem sb_set12 (h : w.rowIs s 52 14 (sbF e wt lf pa le cd ba wa L wk mk)) (v : Value) : (w.setCell ⟨s, 12, none⟩ v).rowIs s 52 14 (sbF e wt lf pa le cd ba v L wk mk) :=
  (h.set 12 v).congr fun j _ => by match j with | 0 | 1 | 2 | 3 | 4 | 5 | 6 | 7 | 8 | 9 | 10 | 11 | 12 | 13 => rfl | k + 14 => simp [sbF]
theorem sb_set13 (h : w.rowIs s 52 14 (sbF e wt lf pa le cd ba wa L wk mk)) (x : Int) : (w.setCell ⟨s, 13, none⟩ (.int .i64 x)).rowIs s 52 14 (sbF e wt lf pa le cd ba wa L wk x) :=
  (h.set 13 (.int .i64 x)).congr fun j _ => by match j with | 0 | 1 | 2 | 3 | 4 | 5 | 6 | 7 | 8 | 9 | 10 | 11 | 12 | 13 => rfl | k + 14 => simp [sbF]
end

/-- The first k headers lead to memory, the empty rows' too. -/
def Heads (w : World) (s o k : Nat) (R : Nat → List Int) : Prop := ∀ j, j < k → ∃ b off C, w.cell? ⟨s, o + j, none⟩ = some (.slice (some ⟨b, off, none⟩) (R j).length C)
theorem Heads.kept {w w' : World} {s o k : Nat} {R : Nat → List Int} (h : Heads w s o k R) (e : w'.heap[s]? = w.heap[s]?) : Heads w' s o k R := fun j hj => by
  obtain ⟨b, off, C, hc⟩ := h j hj
  exact ⟨b, off, C, (World.cell?_of_block (w := w) (a := ⟨s, o + j, none⟩) e).trans hc⟩
theorem Heads.zero (w : World) (s o : Nat) (R : Nat → List Int) : Heads w s o 0 R := fun _ hj => absurd hj (Nat.not_lt_zero _)
theorem Heads.next {w : World} {s t n k g C : Nat} {R : Nat → List Int} (h : Heads w s 0 k R) {f : Nat → Value} (hr : w.rowIs s t n f) (hk : k < n) : Heads (w.setCell ⟨s, k, none⟩ (.slice (some ⟨g, 0, none⟩) (R k).length C)) s 0 (k + 1) R := fun j hj => by
  have hc := (hr.set k (.slice (some ⟨g, 0, none⟩) (R k).length C)).cell (i := j) (by omega)
  by_cases e : j = k
  · subst e
    exact ⟨g, 0, C, by simpa using hc⟩
  · obtain ⟨b, off, C', hc'⟩ := h j (by omega)
    refine ⟨b, off, C', ?_⟩
    have h1 := hr.cell (i := j) (by omega)
    simp only [Nat.zero_add] at hc' ⊢
    rw [hc, if_neg e, ← h1, hc']

/-- A fresh stepBound behind a pointer to block sb. -/
def StepB (w : World) (sb n : Nat) (R F : Nat → List Int) (L : Nat) : Prop :=
  ∃ eb eo wb wo Q ba wa lf pa le, w.rowIs sb 52 14 (sbF (.slice (some ⟨eb, eo, none⟩) n n) (.slice (some ⟨wb, wo, none⟩) n n) lf pa le (.slice none 0 0) (.slice (some ⟨ba, 0, none⟩) n n) (.slice (some ⟨wa, 0, none⟩) n n) L 0 0) ∧
    RowsAt w (sb + 1) Q eb eo n R ∧ RowsAt w (sb + 1) Q wb wo n F ∧ Heads w eb eo n R ∧ Heads w wb wo n F ∧ Q ≤ ba ∧ Q ≤ wa ∧ ba ≠ wa ∧ w.rowIs ba 3 n (fun _ => .int .i64 0) ∧ w.rowIs wa 3 n (fun _ => .int .i64 0)

def StepPost (n : Nat) (R F : Nat → List Int) (L : Nat) (w : World) (e : Ending) (w' : World) : Prop :=
  ∃ sb, e = .returned (.pointer (some ⟨sb, 0, none⟩)) ∧ w.heap.size ≤ sb ∧ Below w.heap.size w w' ∧ StepB w' sb n R F L

/-- The first table in the making. -/
structure New1 (w wr : World) (n k g L : Nat) (R : Nat → List Int) : Prop where
  bel : Below w.heap.size w wr
  st : wr.rowIs w.heap.size 52 14 (sbF (.slice (some ⟨w.heap.size + 1, 0, none⟩) n n) (.slice none 0 0) (.slice none 0 0) (.slice none 0 0) (.slice none 0 0) (.slice none 0 0) (.slice none 0 0) (.slice none 0 0) L 0 0)
  made : MadeTo wr (w.heap.size + 1) 49 n k g R
  heads : Heads wr (w.heap.size + 1) 0 k R
/-- The second. -/
structure New2 (w wr : World) (n s2 k g L : Nat) (R F : Nat → List Int) : Prop where
  bel : Below w.heap.size w wr
  st : wr.rowIs w.heap.size 52 14 (sbF (.slice (some ⟨w.heap.size + 1, 0, none⟩) n n) (.slice (some ⟨s2, 0, none⟩) n n) (.slice none 0 0) (.slice none 0 0) (.slice none 0 0) (.slice none 0 0) (.slice none 0 0) (.slice none 0 0) L 0 0)
  first : RowsAt wr (w.heap.size + 1) s2 (w.heap.size + 1) 0 n R
  made : MadeTo wr s2 49 n k g F
  heads1 : Heads wr (w.heap.size + 1) 0 n R
  heads : Heads wr s2 0 k F

theorem new1_start (w : World) (n L : Nat) (R : Nat → List Int) : New1 w ((w.alloc (.cells #[.slice (some ⟨w.heap.size + 1, 0, none⟩) n n, .slice none 0 0, .int .i64 L, .slice none 0 0, .int .i64 0, .slice none 0 0, .slice none 0 0, .slice none 0 0, .slice none 0 0, .slice none 0 0, .slice none 0 0, .slice none 0 0, .slice none 0 0, .int .i64 0] 52)).alloc (.cells (madeCells #[.slice none 0 0] n) 49)) n 0 (w.heap.size + 2) L R := by
  refine ⟨((Below.refl _ _).alloc (Nat.le_refl _) _).alloc (by simp) _, (World.rowIs_alloc w _ 52 _ (fun i hi => ?_)).alloc _, ?_, Heads.zero _ _ _ _⟩
  · match i, hi with
    | 0, _ | 1, _ | 2, _ | 3, _ | 4, _ | 5, _ | 6, _ | 7, _ | 8, _ | 9, _ | 10, _ | 11, _ | 12, _ | 13, _ => rfl
    | k + 14, h => exact absurd h (by simp)
  · have := made_start (w.alloc (.cells #[.slice (some ⟨w.heap.size + 1, 0, none⟩) n n, .slice none 0 0, .int .i64 L, .slice none 0 0, .int .i64 0, .slice none 0 0, .slice none 0 0, .slice none 0 0, .slice none 0 0, .slice none 0 0, .slice none 0 0, .slice none 0 0, .slice none 0 0, .int .i64 0] 52)) 49 n R
    simpa [nblk_alloc] using this

theorem new1_row {w wr : World} {n k g L : Nat} {R : Nat → List Int} (h : New1 w wr n k g L R) (o : Obj) : New1 w (wr.alloc o) n k g L R := by
  have h1 := h.made.g0; have h2 := h.made.gle
  exact ⟨h.bel.alloc h.bel.size _, h.st.alloc _, h.made.alloc _, h.heads.kept (blk_alloc_lt _ _ _ (by omega))⟩
theorem new1_fill {w wr : World} {n k g L : Nat} {R : Nat → List Int} (h : New1 w wr n k g L R) (i : Nat) (v : Value) : New1 w (wr.setCell ⟨g, i, none⟩ v) n k g L R := by
  have := h.made.g0
  exact ⟨h.bel.setCell (by show w.heap.size ≤ g; omega) _, h.st.setOther (by show w.heap.size ≠ g; omega) _, h.made.setOther (Or.inr (Nat.le_refl _)) _, h.heads.kept (blk_setCell_other _ _ _ _ (by show w.heap.size + 1 ≠ g; omega))⟩
theorem new1_next {w wr : World} {n k g L : Nat} {R : Nat → List Int} (h : New1 w wr n k g L R) (hk : k < n) (hr : wr.rowIs g 47 (R k).length (fillTo (R k) (R k).length)) (hl : (R k).length ≤ 9223372036854775807)
    (hz : ∀ i, i < (R k).length → -2147483648 ≤ (R k).getD i 0 ∧ (R k).getD i 0 ≤ 2147483647) :
    New1 w (wr.setCell ⟨w.heap.size + 1, k, none⟩ (.slice (some ⟨g, 0, none⟩) (R k).length (R k).length)) n (k + 1) (g + 1) L R := by
  obtain ⟨f, hf, _, _⟩ := h.made.top
  exact ⟨h.bel.setCell (by show w.heap.size ≤ w.heap.size + 1; omega) _, h.st.setOther (by show w.heap.size ≠ w.heap.size + 1; omega) _, h.made.next hr hl hz, h.heads.next hf hk⟩
theorem new2_start {w wr : World} {n L : Nat} {R : Nat → List Int} (h : New1 w wr n n wr.heap.size L R) (F : Nat → List Int) :
    New2 w ((wr.alloc (.cells (madeCells #[.slice none 0 0] n) 49)).setCell ⟨w.heap.size, 1, none⟩ (.slice (some ⟨wr.heap.size, 0, none⟩) n n)) n wr.heap.size 0 (wr.heap.size + 1) L R F := by
  have hs := h.made.g0
  refine ⟨(h.bel.alloc h.bel.size _).setCell (Nat.le_refl _) _, sb_set1 (h.st.alloc _) _, ?_, (made_start wr 49 n F).setOther (Or.inl (by show w.heap.size < wr.heap.size; omega)) _, h.heads.kept ((blk_setCell_other _ _ _ _ (by show w.heap.size + 1 ≠ w.heap.size; omega)).trans (blk_alloc_lt _ _ _ hs)), Heads.zero _ _ _ _⟩
  exact h.made.done.kept fun b h0 h1 => (blk_setCell_other _ _ _ _ (by show b ≠ w.heap.size; omega)).trans (blk_alloc_lt _ _ _ h1)
theorem new2_row {w wr : World} {n s2 k g L : Nat} {R F : Nat → List Int} (h : New2 w wr n s2 k g L R F) (o : Obj) : New2 w (wr.alloc o) n s2 k g L R F := by
  have h1 := h.made.g0; have h2 := h.made.gle; have h3 := h.first.2.1
  exact ⟨h.bel.alloc h.bel.size _, h.st.alloc _, h.first.kept fun b _ hb => blk_alloc_lt _ _ _ (by omega), h.made.alloc _, h.heads1.kept (blk_alloc_lt _ _ _ (by omega)), h.heads.kept (blk_alloc_lt _ _ _ (by omega))⟩
theorem new2_fill {w wr : World} {n s2 k g L : Nat} {R F : Nat → List Int} (h : New2 w wr n s2 k g L R F) (i : Nat) (v : Value) : New2 w (wr.setCell ⟨g, i, none⟩ v) n s2 k g L R F := by
  have h1 := h.made.g0; have h2 := h.first.2.1
  exact ⟨h.bel.setCell (by show w.heap.size ≤ g; omega) _, h.st.setOther (by show w.heap.size ≠ g; omega) _, h.first.kept fun b _ hb => blk_setCell_other _ _ _ _ (by show b ≠ g; omega), h.made.setOther (Or.inr (Nat.le_refl _)) _, h.heads1.kept (blk_setCell_other _ _ _ _ (by show w.heap.size + 1 ≠ g; omega)), h.heads.kept (blk_setCell_other _ _ _ _ (by show s2 ≠ g; omega))⟩
theorem new2_next {w wr : World} {n s2 k g L : Nat} {R F : Nat → List Int} (h : New2 w wr n s2 k g L R F) (hk : k < n) (hr : wr.rowIs g 47 (F k).length (fillTo (F k) (F k).length)) (hl : (F k).length ≤ 9223372036854775807)
    (hz : ∀ i, i < (F k).length → -2147483648 ≤ (F k).getD i 0 ∧ (F k).getD i 0 ≤ 2147483647) :
    New2 w (wr.setCell ⟨s2, k, none⟩ (.slice (some ⟨g, 0, none⟩) (F k).length (F k).length)) n s2 (k + 1) (g + 1) L R F := by
  have h2 := h.first.2.1
  obtain ⟨f, hf, _, _⟩ := h.made.top
  exact ⟨h.bel.setCell (by show w.heap.size ≤ s2; omega) _, h.st.setOther (by show w.heap.size ≠ s2; omega) _, h.first.kept fun b _ hb => blk_setCell_other _ _ _ _ (by show b ≠ s2; omega), h.made.next hr hl hz, h.heads1.kept (blk_setCell_other _ _ _ _ (by show w.heap.size + 1 ≠ s2; omega)), h.heads.next hf hk⟩

/-- Both tables stand (in blocks of (w's size, Q)); the five arrays come. -/
structure Tabs (w W : World) (n Q s2 L : Nat) (R F : Nat → List Int) (lf pa le ba wa : Value) : Prop where
  bel : Below w.heap.size w W
  st : W.rowIs w.heap.size 52 14 (sbF (.slice (some ⟨w.heap.size + 1, 0, none⟩) n n) (.slice (some ⟨s2, 0, none⟩) n n) lf pa le (.slice none 0 0) ba wa L 0 0)
  t1 : RowsAt W (w.heap.size + 1) Q (w.heap.size + 1) 0 n R
  t2 : RowsAt W (w.heap.size + 1) Q s2 0 n F
  hQ : Q ≤ W.heap.size
  h1 : Heads W (w.heap.size + 1) 0 n R
  h2 : Heads W s2 0 n F
section
variable {w W : World} {n Q s2 L : Nat} {R F : Nat → List Int} {lf pa le ba wa : Value}
theorem New2.tabs {w wr : World} (h : New2 w wr n s2 n wr.heap.size L R F) : Tabs w wr n wr.heap.size s2 L R F (.slice none 0 0) (.slice none 0 0) (.slice none 0 0) (.slice none 0 0) (.slice none 0 0) := by
  have h1 := h.first.2.1
  exact ⟨h.bel, h.st, h.first.mono (Nat.le_refl _) (by have := h.made.g0; omega), h.made.done.mono (by omega) (Nat.le_refl _), Nat.le_refl _, h.heads1, h.heads⟩
theorem Tabs.alloc (h : Tabs w W n Q s2 L R F lf pa le ba wa) (o : Obj) : Tabs w (W.alloc o) n Q s2 L R F lf pa le ba wa := by
  have := h.hQ; have h1 := h.t1.2.1; have h2 := h.t2.2.1
  exact ⟨h.bel.alloc h.bel.size _, h.st.alloc _, h.t1.kept fun b _ hb => blk_alloc_lt _ _ _ (by omega), h.t2.kept fun b _ hb => blk_alloc_lt _ _ _ (by omega), by rw [nblk_alloc]; omega, h.h1.kept (blk_alloc_lt _ _ _ (by omega)), h.h2.kept (blk_alloc_lt _ _ _ (by omega))⟩
theorem Tabs.store (h : Tabs w W n Q s2 L R F lf pa le ba wa) {i : Nat} {v : Value} {lf' pa' le' ba' wa' : Value}
    (hs : (W.setCell ⟨w.heap.size, i, none⟩ v).rowIs w.heap.size 52 14 (sbF (.slice (some ⟨w.heap.size + 1, 0, none⟩) n n) (.slice (some ⟨s2, 0, none⟩) n n) lf' pa' le' (.slice none 0 0) ba' wa' L 0 0)) : Tabs w (W.setCell ⟨w.heap.size, i, none⟩ v) n Q s2 L R F lf' pa' le' ba' wa' := by
  have h1 := h.t1.1; have h2 := h.t2.1
  exact ⟨h.bel.setCell (Nat.le_refl _) _, hs, h.t1.kept fun b hb _ => blk_setCell_other _ _ _ _ (by show b ≠ w.heap.size; omega), h.t2.kept fun b hb _ => blk_setCell_other _ _ _ _ (by show b ≠ w.heap.size; omega), by rw [nblk_setCell]; exact h.hQ, h.h1.kept (blk_setCell_other _ _ _ _ (by show w.heap.size + 1 ≠ w.heap.size; omega)), h.h2.kept (blk_setCell_other _ _ _ _ (by show s2 ≠ w.heap.size; omega))⟩
end

set_option maxHeartbeats 3200000 in
theorem new_any (ab ao c bb bo d n L : Nat) (R F : Nat → List Int) (B : Nat) (w : World) (hR : RowsAt w 0 B ab ao n R) (hF : RowsAt w 0 B bb bo n F) (hB : B ≤ w.heap.size)
    (hn : n ≤ 1048576) (hRl : ∀ v, v < n → (R v).length ≤ 1048576) (hFl : ∀ v, v < n → (F v).length ≤ 1048576) :
    Calls Try.prog 15 #[.slice (some ⟨ab, ao, none⟩) n c, .slice (some ⟨bb, bo, none⟩) n d, .int .i64 L] w (StepPost n R F L w) := by
  have hmk := run_make_row' (P := Try.prog) 48 49 (.slice none 0 0) 24 Try.underlying48 Try.info49 rfl .i64 .i64 n (by omega) (by omega)
  go_enter Try.func15, Try.ntmps15
  go_wp2
  have HM := hmk
  clear hmk
  go_loopg [9] n (fun g i wr => ∃ k : Nat, k ≤ n ∧ g = n - k ∧ i = .int .i64 k ∧ New1 w wr n k wr.heap.size L R)
  case atStart => exact ⟨0, Nat.zero_le _, rfl, rfl, by simpa [nblk_alloc] using new1_start w n L R⟩
  case round =>
    obtain ⟨k, hk, rfl, rfl, hN⟩ := hrel
    by_cases hlt : k < n
    · obtain ⟨wo, rfl⟩ : ∃ wo, wo = wr := ⟨wr, rfl⟩
      obtain ⟨A, C, hc, hl⟩ := (hR.below hN.bel hB).head hlt
      obtain ⟨_, _, _, _, _, _, _, hz, _⟩ := hR.2.2 k hlt
      have hlen := hRl k hlt
      have hmk := run_make_row' (P := Try.prog) 49 47 (.int .i32 0) 4 Try.underlying49 Try.info47 rfl .i64 .i64 (R k).length (by omega) (by omega)
      have hN0 := new1_row hN (.cells (madeCells #[.int .i32 0] (R k).length) 47)
      have hr0 := World.rowIs_made wo (.int .i32 0) (R k).length 47
      clear HM hN
      go_wp2
      clear hmk hc
      go_loopg [11] (R k).length (fun g i wi => ∃ j : Nat, j ≤ (R k).length ∧ g = (R k).length - j ∧ i = .int .i64 j ∧ wi.heap.size = wo.heap.size + 1 ∧ New1 w wi n k wo.heap.size L R ∧ wi.rowIs wo.heap.size 47 (R k).length (fillTo (R k) j))
      case atStart => exact ⟨0, Nat.zero_le _, rfl, rfl, by simp, hN0, by rw [← fill_zero]; exact hr0⟩
      case round =>
        obtain ⟨j, hj, rfl, rfl, hsz, hNi, hri⟩ := hrel
        clear hN0 hr0
        by_cases hjl : j < (R k).length
        · obtain ⟨b, o, C', z, hc, hcz, e, _, _, _, hz1, hz2⟩ := (hR.below hNi.bel hB).elem hlt hjl
          have hnew : wr.cell? ⟨wo.heap.size, j, none⟩ = some (.int .i32 0) := by
            have := hri.cell hjl
            simpa [fillTo] using this
          have hfz := hri.frozen j
          have H : Hid (New1 w (wr.setCell ⟨wo.heap.size, j, none⟩ (.int .i32 z)) n k wo.heap.size L R ∧ (wr.setCell ⟨wo.heap.size, j, none⟩ (.int .i32 z)).rowIs wo.heap.size 47 (R k).length (fillTo (R k) (j + 1))) :=
            ⟨new1_fill hNi j _, by rw [← e]; exact fill_step hri⟩
          clear hNi hri e hR hF hz hRl hFl
          go_wp2
          go_roundg ((R k).length - (j + 1))
          case measure => omega
          case rel => exact ⟨j + 1, by omega, rfl, by go_num, by rw [nblk_setCell]; exact hsz, H.out.1, H.out.2⟩
        · have ej : j = (R k).length := by omega
          subst ej
          obtain ⟨A', C', hc, _⟩ := (hR.below hNi.bel hB).head hlt
          obtain ⟨f, hf, hf1, hf2⟩ := hNi.made.top
          have htop := hf.cell hlt
          have hfz := hf.frozen k
          have hs0 : wr.cell? ⟨w.heap.size, 0, none⟩ = some (.slice (some ⟨w.heap.size + 1, 0, none⟩) n n) := hNi.st.cell (i := 0) (by omega)
          have H' : Hid (New1 w (wr.setCell ⟨w.heap.size + 1, k, none⟩ (.slice (some ⟨wo.heap.size, 0, none⟩) (R k).length (R k).length)) n (k + 1) (wo.heap.size + 1) L R) := new1_next hNi hlt hri hl hz
          clear hNi hri hf hf1 hf2 hR hF hz hRl hFl
          go_wp2
          go_roundg (n - (k + 1))
          case measure => omega
          case rel => exact ⟨k + 1, by omega, rfl, by go_num, by rw [nblk_setCell, hsz]; exact H'.out⟩
    · obtain rfl : n = k := by omega
      have hmk := HM
      obtain ⟨w2, rfl⟩ : ∃ w2, w2 = wr := ⟨wr, rfl⟩
      have hN2 := new2_start hN F
      have hst : ∀ o, (w2.alloc o).cell? ⟨w.heap.size, 1, none⟩ = some (.slice none 0 0) := fun o => (hN.st.alloc o).cell (i := 1) (by omega)
      have hsf : ∀ o, (w2.alloc o).frozen? ⟨w.heap.size, 1, none⟩ = false := fun o => (hN.st.alloc o).frozen 1
      clear hN HM hR hRl
      go_wp2
      clear hst hsf hmk
      go_loopg [12] n (fun g i wr => ∃ k : Nat, k ≤ n ∧ g = n - k ∧ i = .int .i64 k ∧ New2 w wr n w2.heap.size k wr.heap.size L R F)
      case atStart => exact ⟨0, Nat.zero_le _, rfl, rfl, by rw [nblk_setCell, nblk_alloc]; exact hN2⟩
      case round =>
        obtain ⟨k, hk, rfl, rfl, hN⟩ := hrel
        clear hN2
        by_cases hlt : k < n
        · obtain ⟨wo, rfl⟩ : ∃ wo, wo = wr := ⟨wr, rfl⟩
          obtain ⟨A, C, hc, hl⟩ := (hF.below hN.bel hB).head hlt
          obtain ⟨_, _, _, _, _, _, _, hz, _⟩ := hF.2.2 k hlt
          have hlen := hFl k hlt
          have hmk := run_make_row' (P := Try.prog) 49 47 (.int .i32 0) 4 Try.underlying49 Try.info47 rfl .i64 .i64 (F k).length (by omega) (by omega)
          have hN0 := new2_row hN (.cells (madeCells #[.int .i32 0] (F k).length) 47)
          have hr0 := World.rowIs_made wo (.int .i32 0) (F k).length 47
          clear hN
          go_wp2
          clear hmk hc
          go_loopg [14] (F k).length (fun g i wi => ∃ j : Nat, j ≤ (F k).length ∧ g = (F k).length - j ∧ i = .int .i64 j ∧ wi.heap.size = wo.heap.size + 1 ∧ New2 w wi n w2.heap.size k wo.heap.size L R F ∧ wi.rowIs wo.heap.size 47 (F k).length (fillTo (F k) j))
          case atStart => exact ⟨0, Nat.zero_le _, rfl, rfl, by simp, hN0, by rw [← fill_zero]; exact hr0⟩
          case round =>
            obtain ⟨j, hj, rfl, rfl, hsz, hNi, hri⟩ := hrel
            clear hN0 hr0
            by_cases hjl : j < (F k).length
            · obtain ⟨b, o, C', z, hc, hcz, e, _, _, _, hz1, hz2⟩ := (hF.below hNi.bel hB).elem hlt hjl
              have hnew : wr.cell? ⟨wo.heap.size, j, none⟩ = some (.int .i32 0) := by
                have := hri.cell hjl
                simpa [fillTo] using this
              have hfz := hri.frozen j
              have H : Hid (New2 w (wr.setCell ⟨wo.heap.size, j, none⟩ (.int .i32 z)) n w2.heap.size k wo.heap.size L R F ∧ (wr.setCell ⟨wo.heap.size, j, none⟩ (.int .i32 z)).rowIs wo.heap.size 47 (F k).length (fillTo (F k) (j + 1))) :=
                ⟨new2_fill hNi j _, by rw [← e]; exact fill_step hri⟩
              clear hNi hri e hF hz hFl
              go_wp2
              go_roundg ((F k).length - (j + 1))
              case measure => omega
              case rel => exact ⟨j + 1, by omega, rfl, by go_num, by rw [nblk_setCell]; exact hsz, H.out.1, H.out.2⟩
            · have ej : j = (F k).length := by omega
              subst ej
              obtain ⟨A', C', hc, _⟩ := (hF.below hNi.bel hB).head hlt
              obtain ⟨f, hf, hf1, hf2⟩ := hNi.made.top
              have htop := hf.cell hlt
              have hfz := hf.frozen k
              have hs0 : wr.cell? ⟨w.heap.size, 1, none⟩ = some (.slice (some ⟨w2.heap.size, 0, none⟩) n n) := hNi.st.cell (i := 1) (by omega)
              have H' : Hid (New2 w (wr.setCell ⟨w2.heap.size, k, none⟩ (.slice (some ⟨wo.heap.size, 0, none⟩) (F k).length (F k).length)) n w2.heap.size (k + 1) (wo.heap.size + 1) L R F) := new2_next hNi hlt hri hl hz
              clear hNi hri hf hf1 hf2 hF hz hFl
              go_wp2
              go_roundg (n - (k + 1))
              case measure => omega
              case rel => exact ⟨k + 1, by omega, rfl, by go_num, by rw [nblk_setCell, hsz]; exact H'.out⟩
        · obtain rfl : n = k := by omega
          have hm1 := run_make_row' (P := Try.prog) 23 21 (.int .i32 0) 4 Try.underlying23 Try.info21 rfl .i64 .i64 n (by omega) (by omega)
          have hm2 := run_make_row' (P := Try.prog) 24 3 (.int .i64 0) 8 Try.underlying24 Try.info3 rfl .i64 .i64 n (by omega) (by omega)
          have hsb := hN.st.lt
          have c5 : wr.cell? ⟨w.heap.size, 5, none⟩ = some (.slice none 0 0) := hN.st.cell (i := 5) (by omega)
          have c8 : wr.cell? ⟨w.heap.size, 8, none⟩ = some (.slice none 0 0) := hN.st.cell (i := 8) (by omega)
          have f5 := hN.st.frozen 5
          have f8 := hN.st.frozen 8
          have H : Tabs w wr n wr.heap.size w2.heap.size L R F (.slice none 0 0) (.slice none 0 0) (.slice none 0 0) (.slice none 0 0) (.slice none 0 0) := hN.tabs
          have H1 := H.store (sb_set5 H.st (.slice (some ⟨wr.heap.size, 0, none⟩) n n))
          have H2 := H1.store (sb_set8 H1.st (.slice (some ⟨wr.heap.size + 1, 0, none⟩) n n))
          have H3 := (H2.alloc (.cells (madeCells #[.int .i32 0] n) 21)).alloc (.cells (madeCells #[.int .i64 0] n) 3)
          clear hN hF hFl H H1 H2
          go_upto_region 25 with fail
          clear c5 c8 f5 f8
          generalize ((((wr.setCell ⟨w.heap.size, 5, none⟩ (.slice (some ⟨wr.heap.size, 0, none⟩) n n)).setCell ⟨w.heap.size, 8, none⟩ (.slice (some ⟨wr.heap.size + 1, 0, none⟩) n n)).alloc (.cells (madeCells #[.int .i32 0] n) 21)).alloc (.cells (madeCells #[.int .i64 0] n) 3)) = w5 at *
          have hsb5 := H3.st.lt
          have c9 : w5.cell? ⟨w.heap.size, 9, none⟩ = some (.slice none 0 0) := H3.st.cell (i := 9) (by omega)
          have c11 : w5.cell? ⟨w.heap.size, 11, none⟩ = some (.slice none 0 0) := H3.st.cell (i := 11) (by omega)
          have f9 := H3.st.frozen 9
          have f11 := H3.st.frozen 11
          have H4 := H3.store (sb_set9 H3.st (.slice (some ⟨w5.heap.size, 0, none⟩) n n))
          have H5 := H4.store (sb_set11 H4.st (.slice (some ⟨w5.heap.size + 1, 0, none⟩) n n))
          have H6 := (H5.alloc (.cells (madeCells #[.int .i64 0] n) 3))
          have H7 := H6.alloc (.cells (madeCells #[.int .i64 0] n) 3)
          have R7 : (((((w5.setCell ⟨w.heap.size, 9, none⟩ (.slice (some ⟨w5.heap.size, 0, none⟩) n n)).setCell ⟨w.heap.size, 11, none⟩ (.slice (some ⟨w5.heap.size + 1, 0, none⟩) n n)).alloc (.cells (madeCells #[.int .i64 0] n) 3))).alloc (.cells (madeCells #[.int .i64 0] n) 3)).rowIs (w5.heap.size + 1) 3 n (fun _ => .int .i64 0) := by
            have := World.rowIs_made ((((w5.setCell ⟨w.heap.size, 9, none⟩ (.slice (some ⟨w5.heap.size, 0, none⟩) n n)).setCell ⟨w.heap.size, 11, none⟩ (.slice (some ⟨w5.heap.size + 1, 0, none⟩) n n)).alloc (.cells (madeCells #[.int .i64 0] n) 3))) (.int .i64 0) n 3
            rw [nblk_alloc, nblk_setCell, nblk_setCell] at this
            exact this
          have HQ := H3.hQ
          have HS : Hid ((((((w5.setCell ⟨w.heap.size, 9, none⟩ (.slice (some ⟨w5.heap.size, 0, none⟩) n n)).setCell ⟨w.heap.size, 11, none⟩ (.slice (some ⟨w5.heap.size + 1, 0, none⟩) n n)).alloc (.cells (madeCells #[.int .i64 0] n) 3))).alloc (.cells (madeCells #[.int .i64 0] n) 3)).heap.size = w5.heap.size + 2) := by
            show _ = _
            rw [nblk_alloc, nblk_alloc, nblk_setCell, nblk_setCell]
          clear H3 H4 H5 H6
          go_upto_region 27 with fail
          clear c9 c11 f9 f11
          generalize (((((w5.setCell ⟨w.heap.size, 9, none⟩ (.slice (some ⟨w5.heap.size, 0, none⟩) n n)).setCell ⟨w.heap.size, 11, none⟩ (.slice (some ⟨w5.heap.size + 1, 0, none⟩) n n)).alloc (.cells (madeCells #[.int .i64 0] n) 3))).alloc (.cells (madeCells #[.int .i64 0] n) 3)) = w7 at *
          have hsb7 := H7.st.lt
          have c12 : w7.cell? ⟨w.heap.size, 12, none⟩ = some (.slice none 0 0) := H7.st.cell (i := 12) (by omega)
          have f12 := H7.st.frozen 12
          have H8 := (H7.store (sb_set12 H7.st (.slice (some ⟨w7.heap.size, 0, none⟩) n n))).alloc (.cells (madeCells #[.int .i64 0] n) 3)
          have R8 : ((w7.setCell ⟨w.heap.size, 12, none⟩ (.slice (some ⟨w7.heap.size, 0, none⟩) n n)).alloc (.cells (madeCells #[.int .i64 0] n) 3)).rowIs (w5.heap.size + 1) 3 n (fun _ => .int .i64 0) := (R7.setOther (by show w5.heap.size + 1 ≠ w.heap.size; omega) _).alloc _
          have R9 : ((w7.setCell ⟨w.heap.size, 12, none⟩ (.slice (some ⟨w7.heap.size, 0, none⟩) n n)).alloc (.cells (madeCells #[.int .i64 0] n) 3)).rowIs w7.heap.size 3 n (fun _ => .int .i64 0) := by
            have := World.rowIs_made (w7.setCell ⟨w.heap.size, 12, none⟩ (.slice (some ⟨w7.heap.size, 0, none⟩) n n)) (.int .i64 0) n 3
            rw [nblk_setCell] at this
            exact this
          have HP : StepPost n R F L w (.returned (.pointer (some ⟨w.heap.size, 0, none⟩))) ((w7.setCell ⟨w.heap.size, 12, none⟩ (.slice (some ⟨w7.heap.size, 0, none⟩) n n)).alloc (.cells (madeCells #[.int .i64 0] n) 3)) :=
            ⟨_, rfl, Nat.le_refl _, H8.bel, _, _, _, _, _, _, _, _, _, _, H8.st, H8.t1, H8.t2, H8.h1, H8.h2, by omega, by have := HS.out; omega, by have := HS.out; omega, R8, R9⟩
          clear H7 H8 R7 R8 R9 HQ HS
          go_wp2
          go_ret
          exact HP
end Go.Proofs.Qxb6000686a
