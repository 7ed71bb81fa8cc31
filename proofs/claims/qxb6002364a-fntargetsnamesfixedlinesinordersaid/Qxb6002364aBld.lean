/-
  The seat's own text: the builder's state; target.
-/
import Derived.Test.Qxb6002364aBase
namespace Go.Proofs.Qxb6002364a
open Go.RowKit Go.Deep

/-- What the builder was made of. -/
structure Env where
  kA : Option Addr
  lA : Option Addr
  cA : Option Addr
  kc : Nat
  lc : Nat
  cc : Nat
  Ks : List Nat
  Lns : List Int
  Cs : List Bool

def Env.kv (E : Env) : Value := .slice E.kA E.Ks.length E.kc
def Env.lv (E : Env) : Value := .slice E.lA E.Lns.length E.lc
def Env.cv (E : Env) : Value := .slice E.cA E.Cs.length E.cc
/-- The lines of an ON GOTO, in block g, with no spare. -/
def sl (g : Nat) (L : List Int) : Value := .slice (some ⟨g, 0, none⟩) L.length L.length
def rowF (L : List Int) : Nat → Value := fun j => .int .i64 (L.getD j 0)

structure Bld (E : Env) (w : World) (s k l c : Nat) (ws : List Int) (os ss : List Value) (rows : List (Nat × List Int)) (wv ov sv : Value) : Prop where
  st : w.rowIs s 32 9 (bF (.slice E.kA E.Ks.length E.kc) (.slice E.lA E.Lns.length E.lc) (.slice E.cA E.Cs.length E.cc) k l c wv ov sv)
  ka : ArrAt w s E.kA E.Ks.length (fun i => .int .u8 ((E.Ks.getD i 0 : Nat) : Int))
  la : ArrAt w s E.lA E.Lns.length (fun i => .int .i64 (E.Lns.getD i 0))
  ca : ArrAt w s E.cA E.Cs.length (fun i => .bool (E.Cs.getD i false))
  want : w.ownsRow (s + 1) 3 1 wv ws.length (ws.map (Value.int .i64))
  ons : w.ownsRow (s + 1) 23 1 ov os.length os
  snaps : w.ownsRow (s + 1) 23 1 sv ss.length ss
  apart : ov.ownBlock = none ∨ ov.ownBlock ≠ sv.ownBlock
  lie : ∀ p ∈ rows, s < p.1 ∧ wv.ownBlock ≠ some p.1 ∧ w.rowIs p.1 3 p.2.length (rowF p.2)

/-- Every ON GOTO's lines and their snapshot lie in rows of the same numbers. -/
def Pairs (os ss : List Value) (rows : List (Nat × List Int)) : Prop := os.length = ss.length ∧ ∀ i, i < os.length → ∃ g g' L, os[i]? = some (sl g L) ∧ ss[i]? = some (sl g' L) ∧ (g, L) ∈ rows ∧ (g', L) ∈ rows ∧ L.length ≤ 1000
theorem Pairs.more {os ss : List Value} {rows rows' : List (Nat × List Int)} (h : Pairs os ss rows) (hr : ∀ p ∈ rows, p ∈ rows') : Pairs os ss rows' :=
  ⟨h.1, fun i hi => by obtain ⟨g, g', L, h1, h2, h3, h4, h5⟩ := h.2 i hi; exact ⟨g, g', L, h1, h2, hr _ h3, hr _ h4, h5⟩⟩
theorem Pairs.next {os ss : List Value} {rows : List (Nat × List Int)} (h : Pairs os ss rows) {g g' : Nat} {L : List Int} (h3 : (g, L) ∈ rows) (h4 : (g', L) ∈ rows) (hl : L.length ≤ 1000) : Pairs (os ++ [sl g L]) (ss ++ [sl g' L]) rows := by
  refine ⟨by simp [h.1], fun i hi => ?_⟩
  by_cases e : i < os.length
  · obtain ⟨a, b, M, h1, h2, h5, h6⟩ := h.2 i e
    exact ⟨a, b, M, by rw [List.getElem?_append_left e, h1], by rw [List.getElem?_append_left (by rw [← h.1]; exact e), h2], h5, h6⟩
  · have e' : i = os.length := by simp at hi; omega
    subst e'
    exact ⟨g, g', L, by simp, by rw [h.1]; simp, h3, h4, hl⟩

section
variable {E : Env} {w w' : World} {s k l c : Nat} {ws : List Int} {os ss : List Value} {rows : List (Nat × List Int)} {wv ov sv : Value}

theorem own_ne {w : World} {s e n : Nat} {v : Value} {xs : List Value} (h : w.ownsRow (s + 1) e 1 v n xs) : v.ownBlock = none ∨ v.ownBlock ≠ some s := by
  cases hv : v.ownBlock with
  | none => exact .inl rfl
  | some k => exact .inr fun e => by have := (h.lt k hv).1; cases e; omega
theorem Only.grown {s : Nat} {w w' : World} (h : Only s w w') : w.grownBy w' (some s) :=
  ⟨h.os, h.tape, h.output, by rw [h.size]; exact Nat.le_refl _, fun k _ hk => h.block k (fun e => hk (by rw [e]))⟩
/-- A counter has moved on. -/
theorem Bld.only (h : Bld E w s k l c ws os ss rows wv ov sv) {k' l' c' : Nat} (ho : Only s w w') (hs : w'.rowIs s 32 9 (bF (.slice E.kA E.Ks.length E.kc) (.slice E.lA E.Lns.length E.lc) (.slice E.cA E.Cs.length E.cc) k' l' c' wv ov sv)) :
    Bld E w' s k' l' c' ws os ss rows wv ov sv :=
  ⟨hs, h.ka.kept fun b hb => ho.block b (by omega), h.la.kept fun b hb => ho.block b (by omega), h.ca.kept fun b hb => ho.block b (by omega), h.want.kept ho.grown (own_ne h.want), h.ons.kept ho.grown (own_ne h.ons), h.snaps.kept ho.grown (own_ne h.snaps), h.apart,
    fun p hp => ⟨(h.lie p hp).1, (h.lie p hp).2.1, (h.lie p hp).2.2.of_block (ho.block p.1 (by have := (h.lie p hp).1; omega))⟩⟩
/-- Writes to one other block, new blocks: all is kept. -/
theorem Bld.kept (h : Bld E w s k l c ws os ss rows wv ov sv) {row : Option Nat} (hg : w.grownBy w' row) (hr : ∀ b, row = some b → s < b ∧ wv.ownBlock ≠ some b ∧ ov.ownBlock ≠ some b ∧ sv.ownBlock ≠ some b ∧ ∀ p ∈ rows, p.1 ≠ b) :
    Bld E w' s k l c ws os ss rows wv ov sv := by
  have hs := h.st.lt
  have hne : ∀ v : Value, (∀ b, row = some b → v.ownBlock ≠ some b) → v.ownBlock = none ∨ v.ownBlock ≠ row := by
    intro v hv
    cases hrow : row with
    | none => cases hv' : v.ownBlock with
      | none => exact .inl rfl
      | some x => exact .inr (by simp)
    | some b => exact .inr (hv b hrow)
  have hblk : ∀ b, b ≤ s → w'.heap[b]? = w.heap[b]? := fun b hb => hg.block b (by omega) (fun e => by have := (hr b e.symm).1; omega)
  refine ⟨h.st.of_block (hblk s (Nat.le_refl _)), h.ka.kept fun b hb => hblk b (by omega), h.la.kept fun b hb => hblk b (by omega), h.ca.kept fun b hb => hblk b (by omega), h.want.kept hg (hne _ fun b hb => (hr b hb).2.1), h.ons.kept hg (hne _ fun b hb => (hr b hb).2.2.1), h.snaps.kept hg (hne _ fun b hb => (hr b hb).2.2.2.1), h.apart, fun p hp => ?_⟩
  exact ⟨(h.lie p hp).1, (h.lie p hp).2.1, (h.lie p hp).2.2.of_block (hg.block p.1 (h.lie p hp).2.2.lt (fun e => (hr p.1 e.symm).2.2.2.2 p hp rfl))⟩
theorem Bld.alloc (h : Bld E w s k l c ws os ss rows wv ov sv) (o : Obj) : Bld E (w.alloc o) s k l c ws os ss rows wv ov sv :=
  h.kept (World.grownBy_alloc w o none) (fun b hb => by cases hb)
theorem Bld.drewN (h : Bld E w s k l c ws os ss rows wv ov sv) (q : Nat) : Bld E (w.drewN q) s k l c ws os ss rows wv ov sv :=
  h.kept (row := none) ⟨rfl, rfl, rfl, Nat.le_refl _, fun _ _ _ => rfl⟩ (fun b hb => by cases hb)
/-- A store into a block of its own, behind all that matters. -/
theorem Bld.store (h : Bld E w s k l c ws os ss rows wv ov sv) {a : Addr} (v : Value) (hr : s < a.block ∧ wv.ownBlock ≠ some a.block ∧ ov.ownBlock ≠ some a.block ∧ sv.ownBlock ≠ some a.block ∧ ∀ p ∈ rows, p.1 ≠ a.block) : Bld E (w.setCell a v) s k l c ws os ss rows wv ov sv :=
  h.kept (row := some a.block) ⟨rfl, rfl, rfl, by rw [nblk_setCell]; exact Nat.le_refl _, fun k _ hk => blk_setCell_other _ _ _ _ (fun e => hk (by rw [e]))⟩ (fun b hb => by cases hb; exact hr)
/-- No block that the state holds is a new one. -/
theorem Bld.new (h : Bld E w s k l c ws os ss rows wv ov sv) {b : Nat} (hb : w.heap.size ≤ b) : s < b ∧ wv.ownBlock ≠ some b ∧ ov.ownBlock ≠ some b ∧ sv.ownBlock ≠ some b ∧ ∀ p ∈ rows, p.1 ≠ b := by
  have hs := h.st.lt
  exact ⟨by omega, fun e => by have := (h.want.lt b e).2; omega, fun e => by have := (h.ons.lt b e).2; omega, fun e => by have := (h.snaps.lt b e).2; omega, fun p hp e => by have := (h.lie p hp).2.2.lt; omega⟩

/-- One line more is wanted: 'b.want = append(b.want, v)'. -/
theorem Bld.wanted (h : Bld E w s k l c ws os ss rows wv ov sv) {w1 : World} {x : Int} {o : Obj} {g cap : Nat}
    (hown : w1.ownsRow (s + 1) 3 1 (.slice (some ⟨g, 0, none⟩) (ws.length + 1) cap) (ws.length + 1) (ws.map (Value.int .i64) ++ [.int .i64 x])) (hgrow : (w.alloc o).grownBy w1 wv.ownBlock) (hat : wv.ownBlock = some g ∨ g = w.heap.size + 1) :
    w1.rowIs s 32 9 (bF (.slice E.kA E.Ks.length E.kc) (.slice E.lA E.Lns.length E.lc) (.slice E.cA E.Cs.length E.cc) k l c wv ov sv) ∧
    Bld E (w1.setCell ⟨s, 6, none⟩ (.slice (some ⟨g, 0, none⟩) (ws.length + 1) cap)) s k l c (ws ++ [x]) os ss rows (.slice (some ⟨g, 0, none⟩) (ws.length + 1) cap) ov sv := by
  have hs := h.st.lt
  have hA := h.alloc o
  have hblk : ∀ b, b ≤ s → w1.heap[b]? = (w.alloc o).heap[b]? := fun b hb => hgrow.block b (by simp; omega) (fun e => by have := (h.want.lt b e.symm).1; omega)
  have hst := hA.st.of_block (w' := w1) (hblk s (Nat.le_refl _))
  -- the want's block is none of the others'
  have hty : ∀ (v : Value) (n : Nat) (xs : List Value), w.ownsRow (s + 1) 23 1 v n xs → v.ownBlock = none ∨ v.ownBlock ≠ wv.ownBlock := by
    intro v n xs hv
    rcases hv.2 with ⟨rfl, _⟩ | ⟨g1, cap1, cur1, rfl, _, hg1, _⟩
    · exact .inl rfl
    · right
      intro e
      rcases h.want.2 with ⟨hw, _⟩ | ⟨g2, cap2, cur2, hw, _, hg2, _⟩
      · rw [hw] at e; simp [Value.ownBlock] at e
      · rw [hw] at e
        simp [Value.ownBlock] at e
        subst e
        rw [hg1] at hg2
        simp at hg2
  have hgs : ∀ b, b < (w.alloc o).heap.size → b ≠ s → (w1.setCell ⟨s, 6, none⟩ (.slice (some ⟨g, 0, none⟩) (ws.length + 1) cap)).heap[b]? = w1.heap[b]? := fun b _ hb => blk_setCell_other _ _ _ _ hb
  have hout : ∀ {e n : Nat} {v : Value} {xs : List Value}, w1.ownsRow (s + 1) e 1 v n xs → (w1.setCell ⟨s, 6, none⟩ (.slice (some ⟨g, 0, none⟩) (ws.length + 1) cap)).ownsRow (s + 1) e 1 v n xs := fun h => ownsRow_setCell_below h (by show s < s + 1; omega) _
  refine ⟨hst, b_set6 hst _, ?_, ?_, ?_, ?_, hout ((hA.ons.kept hgrow (hty _ _ _ h.ons))), hout ((hA.snaps.kept hgrow (hty _ _ _ h.snaps))), h.apart, fun p hp => ?_⟩
  · exact hA.ka.kept fun b hb => (blk_setCell_other _ _ _ _ (by show b ≠ s; omega)).trans (hblk b (by omega))
  · exact hA.la.kept fun b hb => (blk_setCell_other _ _ _ _ (by show b ≠ s; omega)).trans (hblk b (by omega))
  · exact hA.ca.kept fun b hb => (blk_setCell_other _ _ _ _ (by show b ≠ s; omega)).trans (hblk b (by omega))
  · have := hout hown
    simpa using this
  · obtain ⟨p1, p2, p3⟩ := h.lie p hp
    have hlt := p3.lt
    refine ⟨p1, ?_, ((p3.alloc o).of_block (w' := w1) (hgrow.block p.1 (by simp; omega) (fun e => p2 e.symm))).setOther (by show p.1 ≠ s; omega) _⟩
    intro e
    simp [Value.ownBlock] at e
    rcases hat with hat | hat
    · exact p2 (by rw [hat, e])
    · omega
theorem own_type {w : World} {b e1 e2 n1 n2 : Nat} {v1 v2 : Value} {x1 x2 : List Value} (h1 : w.ownsRow b e1 1 v1 n1 x1) (h2 : w.ownsRow b e2 1 v2 n2 x2) (he : e1 ≠ e2) : v1.ownBlock = none ∨ v1.ownBlock ≠ v2.ownBlock := by
  rcases h1.2 with ⟨rfl, _⟩ | ⟨g1, cap1, cur1, rfl, _, hg1, _⟩
  · exact .inl rfl
  · right
    intro e
    rcases h2.2 with ⟨hw, _⟩ | ⟨g2, cap2, cur2, hw, _, hg2, _⟩
    · rw [hw] at e; simp [Value.ownBlock] at e
    · rw [hw] at e
      simp [Value.ownBlock] at e
      subst e
      rw [hg1] at hg2
      simp at hg2
      exact he hg2.2
theorem own_row {w : World} {b n m g : Nat} {v : Value} {x : List Value} {f : Nat → Value} (h : w.ownsRow b 23 1 v n x) (hr : w.rowIs g 3 m f) : v.ownBlock ≠ some g := by
  intro e
  rcases h.2 with ⟨rfl, _⟩ | ⟨g1, cap1, cur1, rfl, _, hg1, _⟩
  · simp [Value.ownBlock] at e
  · simp [Value.ownBlock] at e
    subst e
    obtain ⟨c, hc, _⟩ := hr
    rw [hg1] at hc
    simp at hc

/-- 'b.ons = append(b.ons, ls)'. -/
theorem Bld.onsed (h : Bld E w s k l c ws os ss rows wv ov sv) {w1 : World} {x : Value} {o : Obj} {g cap : Nat}
    (hown : w1.ownsRow (s + 1) 23 1 (.slice (some ⟨g, 0, none⟩) (os.length + 1) cap) (os.length + 1) (os ++ [x])) (hgrow : (w.alloc o).grownBy w1 ov.ownBlock) (hat : ov.ownBlock = some g ∨ g = w.heap.size + 1) :
    w1.rowIs s 32 9 (bF (.slice E.kA E.Ks.length E.kc) (.slice E.lA E.Lns.length E.lc) (.slice E.cA E.Cs.length E.cc) k l c wv ov sv) ∧
    Bld E (w1.setCell ⟨s, 7, none⟩ (.slice (some ⟨g, 0, none⟩) (os.length + 1) cap)) s k l c ws (os ++ [x]) ss rows wv (.slice (some ⟨g, 0, none⟩) (os.length + 1) cap) sv := by
  have hs := h.st.lt
  have hA := h.alloc o
  have hblk : ∀ b, b ≤ s → w1.heap[b]? = (w.alloc o).heap[b]? := fun b hb => hgrow.block b (by simp; omega) (fun e => by have := (h.ons.lt b e.symm).1; omega)
  have hst := hA.st.of_block (w' := w1) (hblk s (Nat.le_refl _))
  have hout : ∀ {e n : Nat} {v : Value} {xs : List Value}, w1.ownsRow (s + 1) e 1 v n xs → (w1.setCell ⟨s, 7, none⟩ (.slice (some ⟨g, 0, none⟩) (os.length + 1) cap)).ownsRow (s + 1) e 1 v n xs := fun h => ownsRow_setCell_below h (by show s < s + 1; omega) _
  have hap : sv.ownBlock = none ∨ sv.ownBlock ≠ ov.ownBlock := by
    rcases h.apart with h0 | h0
    · cases hsv : sv.ownBlock with
      | none => exact .inl rfl
      | some z => exact .inr (by rw [h0]; simp)
    · exact .inr (Ne.symm h0)
  refine ⟨hst, b_set7 hst _, ?_, ?_, ?_, hout (hA.want.kept hgrow (own_type h.want h.ons (by omega))), ?_, hout (hA.snaps.kept hgrow hap), ?_, fun p hp => ?_⟩
  · exact hA.ka.kept fun b hb => (blk_setCell_other _ _ _ _ (by show b ≠ s; omega)).trans (hblk b (by omega))
  · exact hA.la.kept fun b hb => (blk_setCell_other _ _ _ _ (by show b ≠ s; omega)).trans (hblk b (by omega))
  · exact hA.ca.kept fun b hb => (blk_setCell_other _ _ _ _ (by show b ≠ s; omega)).trans (hblk b (by omega))
  · have := hout hown
    simpa using this
  · right
    intro e
    have e : some g = sv.ownBlock := e
    rcases hat with hat | hat
    · rcases h.apart with h0 | h0
      · rw [h0] at hat; cases hat
      · exact h0 (by rw [hat, e])
    · have := (h.snaps.lt g e.symm).2
      omega
  · obtain ⟨p1, p2, p3⟩ := h.lie p hp
    have hlt := p3.lt
    exact ⟨p1, p2, ((p3.alloc o).of_block (w' := w1) (hgrow.block p.1 (by simp; omega) (fun e => own_row h.ons p3 e.symm))).setOther (by show p.1 ≠ s; omega) _⟩
/-- 'b.snaps = append(b.snaps, snap)'. -/
theorem Bld.snapped (h : Bld E w s k l c ws os ss rows wv ov sv) {w1 : World} {x : Value} {o : Obj} {g cap : Nat}
    (hown : w1.ownsRow (s + 1) 23 1 (.slice (some ⟨g, 0, none⟩) (ss.length + 1) cap) (ss.length + 1) (ss ++ [x])) (hgrow : (w.alloc o).grownBy w1 sv.ownBlock) (hat : sv.ownBlock = some g ∨ g = w.heap.size + 1) :
    w1.rowIs s 32 9 (bF (.slice E.kA E.Ks.length E.kc) (.slice E.lA E.Lns.length E.lc) (.slice E.cA E.Cs.length E.cc) k l c wv ov sv) ∧
    Bld E (w1.setCell ⟨s, 8, none⟩ (.slice (some ⟨g, 0, none⟩) (ss.length + 1) cap)) s k l c ws os (ss ++ [x]) rows wv ov (.slice (some ⟨g, 0, none⟩) (ss.length + 1) cap) := by
  have hs := h.st.lt
  have hA := h.alloc o
  have hblk : ∀ b, b ≤ s → w1.heap[b]? = (w.alloc o).heap[b]? := fun b hb => hgrow.block b (by simp; omega) (fun e => by have := (h.snaps.lt b e.symm).1; omega)
  have hst := hA.st.of_block (w' := w1) (hblk s (Nat.le_refl _))
  have hout : ∀ {e n : Nat} {v : Value} {xs : List Value}, w1.ownsRow (s + 1) e 1 v n xs → (w1.setCell ⟨s, 8, none⟩ (.slice (some ⟨g, 0, none⟩) (ss.length + 1) cap)).ownsRow (s + 1) e 1 v n xs := fun h => ownsRow_setCell_below h (by show s < s + 1; omega) _
  refine ⟨hst, b_set8 hst _, ?_, ?_, ?_, hout (hA.want.kept hgrow (own_type h.want h.snaps (by omega))), hout (hA.ons.kept hgrow h.apart), ?_, ?_, fun p hp => ?_⟩
  · exact hA.ka.kept fun b hb => (blk_setCell_other _ _ _ _ (by show b ≠ s; omega)).trans (hblk b (by omega))
  · exact hA.la.kept fun b hb => (blk_setCell_other _ _ _ _ (by show b ≠ s; omega)).trans (hblk b (by omega))
  · exact hA.ca.kept fun b hb => (blk_setCell_other _ _ _ _ (by show b ≠ s; omega)).trans (hblk b (by omega))
  · have := hout hown
    simpa using this
  · rcases h.apart with h0 | h0
    · exact .inl h0
    · right
      intro e
      have e : ov.ownBlock = some g := e
      rcases hat with hat | hat
      · exact h0 (by rw [e, hat])
      · have := (h.ons.lt g e).2
        omega
  · obtain ⟨p1, p2, p3⟩ := h.lie p hp
    have hlt := p3.lt
    exact ⟨p1, p2, ((p3.alloc o).of_block (w' := w1) (hgrow.block p.1 (by simp; omega) (fun e => own_row h.snaps p3 e.symm))).setOther (by show p.1 ≠ s; omega) _⟩
theorem Bld.addRow (h : Bld E w s k l c ws os ss rows wv ov sv) {g : Nat} {L : List Int} (h1 : s < g) (h2 : wv.ownBlock ≠ some g) (h3 : w.rowIs g 3 L.length (rowF L)) : Bld E w s k l c ws os ss (rows ++ [(g, L)]) wv ov sv :=
  ⟨h.st, h.ka, h.la, h.ca, h.want, h.ons, h.snaps, h.apart, fun p hp => by
    rcases List.mem_append.1 hp with hp | hp
    · exact h.lie p hp
    · simp at hp; subst hp; exact ⟨h1, h2, h3⟩⟩
end
end Go.Proofs.Qxb6002364a
