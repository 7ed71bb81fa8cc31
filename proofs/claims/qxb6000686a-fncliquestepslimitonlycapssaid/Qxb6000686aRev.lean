/-
  The seat's own text: zzReverse lays, for each transaction, those that wait for it.
-/
import Derived.Test.Qxb6000686aClone
import Derived.Deep.AppendLies
namespace Go.Proofs.Qxb6000686a
open Go.RowKit Go.Deep Plain

def ints (E : Nat → List Nat) : Nat → List Int := fun v => (E v).map fun c : Nat => (c : Int)
theorem ints_len (E : Nat → List Nat) (v : Nat) : (ints E v).length = (E v).length := by simp [ints]
theorem ints_getD (E : Nat → List Nat) (v i : Nat) (h : i < (E v).length) : (ints E v).getD i 0 = (((E v)[i] : Nat) : Int) := by simp [ints, h]
theorem lensUp_ints (E : Nat → List Nat) (v : Nat) : lensUp (ints E) v = edgesUp E v := by
  induction v with
  | zero => rfl
  | succ v ih => rw [edgesUp_succ, ← ih]; simp only [lensUp, ints_len]

def selCells (ps : List (Nat × Nat)) (j : Nat) : List Value := (sel ps j).map fun c : Nat => Value.int .i32 (c : Int)
theorem selCells_len (ps : List (Nat × Nat)) (j : Nat) : (selCells ps j).length = (sel ps j).length := by simp [selCells]

/-- The table in the making: header j is 'f j' and owns a row of its own, which holds who waits for j by the edges 'ps'. -/
structure RevTo (w : World) (s n : Nat) (ps : List (Nat × Nat)) (f : Nat → Value) : Prop where
  top : w.rowIs s 23 n f
  own : ∀ j, j < n → w.ownsRow (s + 1) 21 1 (f j) (sel ps j).length (selCells ps j)
  apart : ∀ i j, i < n → j < n → i ≠ j → (f i).ownBlock = none ∨ (f i).ownBlock ≠ (f j).ownBlock

theorem rev_start (w : World) (n : Nat) : RevTo (w.alloc (.cells (madeCells #[.slice none 0 0] n) 23)) w.heap.size n [] (fun _ => .slice none 0 0) :=
  ⟨World.rowIs_made w _ n 23, fun _ _ => World.ownsRow_nil _ _ _ _, fun _ _ _ _ _ => .inl rfl⟩

theorem rev_step {w w1 : World} {s n : Nat} {ps : List (Nat × Nat)} {f : Nat → Value} (h : RevTo w s n ps f) {x v g cap : Nat} {o : Obj} (hx : x < n)
    (hown : w1.ownsRow (s + 1) 21 1 (.slice (some ⟨g, 0, none⟩) ((sel ps x).length + 1) cap) ((sel ps x).length + 1) (selCells ps x ++ [.int .i32 (v : Int)]))
    (hgrow : (w.alloc o).grownBy w1 (f x).ownBlock) (hat : (f x).ownBlock = some g ∨ g = w.heap.size + 1) :
    RevTo (w1.setCell ⟨s, x, none⟩ (.slice (some ⟨g, 0, none⟩) ((sel ps x).length + 1) cap)) s n (ps ++ [(x, v)]) (fun j => if j = x then .slice (some ⟨g, 0, none⟩) ((sel ps x).length + 1) cap else f j) := by
  have hs := h.top.lt
  have hne : ∀ k, (f x).ownBlock = some k → s + 1 ≤ k ∧ k < w.heap.size := (h.own x hx).lt
  refine ⟨?_, fun j hj => ?_, fun i j hi hj hij => ?_⟩
  · refine (((h.top.alloc o).of_block (w' := w1) (hgrow.block s (by simp; omega) ?_)).set x _)
    intro e
    have := (hne s e.symm).1
    omega
  · by_cases e : j = x
    · subst e
      simp only [if_pos]
      have e1 : sel (ps ++ [(j, v)]) j = sel ps j ++ [v] := by rw [sel_snoc, if_pos rfl]
      have e2 : selCells (ps ++ [(j, v)]) j = selCells ps j ++ [.int .i32 (v : Int)] := by simp [selCells, e1]
      rw [e2, e1, List.length_append]
      exact ownsRow_setCell_below hown (by show s < s + 1; omega) _
    · simp only [if_neg e]
      have e1 : sel (ps ++ [(x, v)]) j = sel ps j := by rw [sel_snoc, if_neg (fun h => e h.symm)]
      have e2 : selCells (ps ++ [(x, v)]) j = selCells ps j := by simp [selCells, e1]
      rw [e2, e1]
      exact ownsRow_setCell_below (((h.own j hj).alloc o).kept hgrow (h.apart j x hj hx e)) (by show s < s + 1; omega) _
  · have key : ∀ j, j < n → j ≠ x → (f j).ownBlock ≠ some g := by
      intro j hj hjx e
      rcases hat with hat | hat
      · rcases h.apart j x hj hx hjx with h0 | h0
        · rw [h0] at e; cases e
        · exact h0 (e.trans hat.symm)
      · have := ((h.own j hj).lt g e).2
        omega
    by_cases ei : i = x
    · subst ei
      right
      rw [if_pos rfl, if_neg (fun h => hij h.symm)]
      exact fun e => key j hj (fun h => hij h.symm) e.symm
    · rw [if_neg ei]
      by_cases ej : j = x
      · subst ej
        right
        rw [if_pos rfl]
        exact key i hi ei
      · rw [if_neg ej]
        exact h.apart i j hi hj hij

theorem rev_row {w : World} {s n : Nat} {ps : List (Nat × Nat)} {f : Nat → Value} (h : RevTo w s n ps f) (hb : ∀ p ∈ ps, p.2 < 2147483648) {j : Nat} (hj : j < n) : RowV w s w.heap.size (f j) ((sel ps j).map fun c : Nat => (c : Int)) := by
  have hz : ∀ i, i < ((sel ps j).map fun c : Nat => (c : Int)).length → -2147483648 ≤ ((sel ps j).map fun c : Nat => (c : Int)).getD i 0 ∧ ((sel ps j).map fun c : Nat => (c : Int)).getD i 0 ≤ 2147483647 := by
    intro i hi
    have hi' : i < (sel ps j).length := by simpa using hi
    have hm : (j, (sel ps j)[i]) ∈ ps := (mem_sel _ _ _).1 (List.getElem_mem hi')
    have := hb _ hm
    simp [hi']
    simp at this
    omega
  have ho := h.own j hj
  rcases ho.2 with ⟨hv, h0⟩ | ⟨g, cap, cur, hv, hg, hgg, hn, hm, hc, ht⟩
  · have e0 : sel ps j = [] := List.eq_nil_of_length_eq_zero h0
    rw [hv, e0]
    exact rowV_nil _ _ _
  · have hlt : g < w.heap.size := (Array.getElem?_eq_some_iff.1 hgg).1
    rw [hv] at ho ⊢
    refine ⟨_, cap, by simp, by simpa using hn, hm, hz, fun _ => ⟨g, 0, by omega, hlt, rfl, fun i hi => ?_⟩⟩
    have hi' : i < (sel ps j).length := by simpa using hi
    have := ho.cellAt i (by omega)
    simp only [Nat.zero_add]
    rw [this]
    simp [selCells, hi']

theorem rev_done {w : World} {s n : Nat} {E : Nat → List Nat} {f : Nat → Value} (h : RevTo w s n (pairsUp E n) f) (hn : n ≤ 1048576) : RowsAt w s w.heap.size s 0 n (ints (rev E n)) := by
  refine ⟨Nat.le_refl _, h.top.lt, fun v hv => ⟨f v, by simpa using h.top.cell hv, ?_⟩⟩
  refine rev_row h (fun p hp => ?_) hv
  simp only [pairsUp, List.mem_flatMap, List.mem_range, List.mem_map] at hp
  obtain ⟨u, hu, c, _, rfl⟩ := hp
  show u < _
  omega

set_option maxHeartbeats 1600000 in
theorem rev_any (ab ao n c : Nat) (E : Nat → List Nat) (B : Nat) (w : World) (hR : RowsAt w 0 B ab ao n (ints E)) (hB : B ≤ w.heap.size) (hb : n + edgesUp E n ≤ 1048576) (hE : ∀ v, v < n → ∀ x ∈ E v, x < n) :
    Calls Try.prog 22 #[.slice (some ⟨ab, ao, none⟩) n c] w (TablePost n (ints (rev E n)) w) := by
  have hmk := run_make_row' (P := Try.prog) 22 23 (.slice none 0 0) 24 Try.underlying22 Try.info23 rfl .i64 .i64 n (by omega) (by omega)
  go_enter Try.func22, Try.ntmps22
  go_wp2
  clear hmk
  go_loopg [4] n (fun g i wr => ∃ k : Nat, k ≤ n ∧ g = n - k ∧ i = .int .i64 k ∧ Below w.heap.size w wr ∧ ∃ f, RevTo wr w.heap.size n (pairsTo E k 0) f)
  case atStart => exact ⟨0, Nat.zero_le _, rfl, rfl, (Below.refl _ _).alloc (Nat.le_refl _) _, _, by rw [pairsTo_zero]; exact rev_start w n⟩
  case round =>
    obtain ⟨k, hk, rfl, rfl, hbel, f, hf⟩ := hrel
    by_cases hlt : k < n
    · go_wp2
      go_loopg [5] (E k).length (fun g i wi => ∃ j : Nat, j ≤ (E k).length ∧ g = (E k).length - j ∧ i = .int .i64 j ∧ Below w.heap.size w wi ∧ ∃ f, RevTo wi w.heap.size n (pairsTo E k j) f)
      case atStart => exact ⟨0, Nat.zero_le _, rfl, rfl, hbel, f, hf⟩
      case round =>
        obtain ⟨j, hj, rfl, rfl, hbi, f, hf⟩ := hrel
        have hlen : (E k).length ≤ 1048576 := by have := edgesUp_succ E k; have := edgesUp_mono E (k + 1) n hlt; omega
        by_cases hjl : j < (E k).length
        · obtain ⟨b, o, C', z, hc, hcz, e, _, _, hl, hz1, hz2⟩ := (hR.below hbi hB).elem hlt (by rw [ints_len]; exact hjl)
          rw [ints_getD E k j hjl] at e
          rw [ints_len] at hc
          subst e
          have hx := hE k hlt _ (List.getElem_mem hjl)
          have hps : (pairsTo E k j).length + 1 ≤ 1048576 := by
            rw [pairsTo_len E k j hj]
            have := edgesUp_succ E k; have := edgesUp_mono E (k + 1) n hlt; omega
          have HP : Hid (pairsTo E k (j + 1) = pairsTo E k j ++ [((E k)[j], k)]) := pairsTo_step E k j hjl
          have hsl := sel_le (pairsTo E k j) (E k)[j]
          generalize (E k)[j] = x at *
          generalize pairsTo E k j = ps at *
          have hcell := hf.top.cell hx
          have hown := hf.own x hx
          have hs := hf.top.lt
          obtain ⟨i0, hi, hi0, hi1, hi2⟩ := info_parts Try.info21
          have hsB : w.heap.size < wr.heap.size := hs
          have H : Hid (RevTo wr w.heap.size n ps f) := hf
          have HB : Hid (Below w.heap.size w wr) := hbi
          have HO : Hid (wr.ownsRow (w.heap.size + 1) 21 1 (f x) (sel ps x).length (selCells ps x)) := hown
          clear hR hE hz1 hz2 hf hbi hown
          go_wp2_with (at_builtin; refine wpList_append_lies _ rfl _ _ 23 rfl (w.heap.size + 1) 21 i0 (.int .i32 0) 1 4 Try.underlying23 hi hi0 hi1 hi2 rfl (by omega) (f x) (sel ps x).length (selCells ps x) rfl (HO.out.alloc _) ⟨wr.heap.size, 0, none⟩ 1 1 [.int .i32 (k : Int)] rfl rfl (cell_one_new _ _ _) ?c1 (by omega) (by unfold maxLen; omega) (by omega) (by simp; omega) (wr.heap.size + 1) (by simp) ?_)
          case c1 => intro u hu; simp at hu; subst hu; rfl
          intro g cap w1 hown1 hgrow hat hglt
          have htop1 : w1.rowIs w.heap.size 23 n f := (H.out.top.alloc _).of_block (w' := w1) (hgrow.block w.heap.size (by simp; omega) (fun e => by have := (HO.out.lt _ e.symm).1; omega))
          have hc1 := htop1.cell hx
          have hf1 := htop1.frozen x
          have HR := rev_step H.out hx hown1 hgrow hat
          have HB1 : Below w.heap.size w w1 := (HB.out.alloc (by omega) _).grown hgrow (by simp; omega) (fun k hk => by have := (HO.out.lt k hk).1; omega)
          have HB2 : Below w.heap.size w (w1.setCell ⟨w.heap.size, x, none⟩ (.slice (some ⟨g, 0, none⟩) ((sel ps x).length + 1) cap)) := HB1.setCell (Nat.le_refl _) _
          have HX : Hid (RevTo (w1.setCell ⟨w.heap.size, x, none⟩ (.slice (some ⟨g, 0, none⟩) ((sel ps x).length + 1) cap)) w.heap.size n (pairsTo E k (j + 1)) (fun j => if j = x then .slice (some ⟨g, 0, none⟩) ((sel ps x).length + 1) cap else f j)) := by rw [HP.out]; exact HR
          clear HR HB1 htop1 hown1 hgrow hat H HO HB HP hcell
          go_wp2
          go_roundg ((E k).length - (j + 1))
          case measure => omega
          case rel => exact ⟨j + 1, by omega, rfl, by go_num, HB2, _, HX.out⟩
        · have ej : j = (E k).length := by omega
          obtain ⟨A', C', hc, hl⟩ := (hR.below hbi hB).head hlt
          rw [ints_len] at hc hl
          have H : Hid (RevTo wr w.heap.size n (pairsTo E (k + 1) 0) f) := by
            rw [← pairsTo_next, ← ej]; exact hf
          clear hR hE hf ej
          go_wp2
          go_roundg (n - (k + 1))
          case measure => omega
          case rel => exact ⟨k + 1, by omega, rfl, by go_num, hbi, f, H.out⟩
    · have e : k = n := by omega
      subst e
      have hf' : RevTo wr w.heap.size k (pairsUp E k) f := by
        have e : pairsTo E k 0 = pairsUp E k := by simp [pairsTo]
        rw [← e]; exact hf
      have H : TablePost k (ints (rev E k)) w (.returned (.slice (some ⟨w.heap.size, 0, none⟩) k k)) wr := ⟨_, _, rfl, rev_done hf' (by omega), hbel⟩
      clear hR hE hf hf' hbel
      go_wp2
      go_ret
      exact H
end Go.Proofs.Qxb6000686a
