/-
  The seat's own text: zzCloneRows lays a copy of the rows in new memory.
-/
import Derived.Test.Qxb6000686aBase
namespace Go.Proofs.Qxb6000686a
open Go.RowKit Go.Deep Plain

theorem Try.info3 : (Try.prog.info? 3).map (fun i => (i.zero, i.size, i.bytes)) = some (some (.int .i64 0), 1, 8) := by kernel_rfl
theorem Try.info21 : (Try.prog.info? 21).map (fun i => (i.zero, i.size, i.bytes)) = some (some (.int .i32 0), 1, 4) := by kernel_rfl
theorem Try.info23 : (Try.prog.info? 23).map (fun i => (i.zero, i.size, i.bytes)) = some (some (.slice none 0 0), 1, 24) := by kernel_rfl
theorem Try.info47 : (Try.prog.info? 47).map (fun i => (i.zero, i.size, i.bytes)) = some (some (.int .i32 0), 1, 4) := by kernel_rfl
theorem Try.info49 : (Try.prog.info? 49).map (fun i => (i.zero, i.size, i.bytes)) = some (some (.slice none 0 0), 1, 24) := by kernel_rfl

/-- Of the n rows of the new table (its headers: block s, its headers' type t) k are made, all of them in blocks of (s, g). -/
structure MadeTo (w : World) (s t n k g : Nat) (R : Nat → List Int) : Prop where
  g0 : s < g
  gle : g ≤ w.heap.size
  top : ∃ f, w.rowIs s t n f ∧ (∀ j, j < k → RowV w (s + 1) g (f j) (R j)) ∧ ∀ j, k ≤ j → f j = .slice none 0 0

/-- One row in the making: block g, of type e, i of its cells hold their number. -/
def fillTo (l : List Int) (i : Nat) : Nat → Value := fun j => if j < i then .int .i32 (l.getD j 0) else .int .i32 0

theorem made_start (w : World) (t n : Nat) (R : Nat → List Int) : MadeTo (w.alloc (.cells (madeCells #[.slice none 0 0] n) t)) w.heap.size t n 0 (w.heap.size + 1) R :=
  ⟨by omega, by simp, _, World.rowIs_made w _ n t, fun j hj => absurd hj (Nat.not_lt_zero _), fun _ _ => rfl⟩
theorem MadeTo.alloc {w : World} {s t n k g : Nat} {R : Nat → List Int} (h : MadeTo w s t n k g R) (o : Obj) : MadeTo (w.alloc o) s t n k g R := by
  obtain ⟨h0, h1, f, h2, h3, h4⟩ := h
  exact ⟨h0, by simp; omega, f, h2.alloc o, fun j hj => (h3 j hj).kept fun b _ hb => blk_alloc_lt _ _ _ (by omega), h4⟩
theorem MadeTo.setOther {w : World} {s t n k g : Nat} {R : Nat → List Int} (h : MadeTo w s t n k g R) {a : Addr} (ha : a.block < s ∨ g ≤ a.block) (v : Value) : MadeTo (w.setCell a v) s t n k g R := by
  obtain ⟨h0, h1, f, h2, h3, h4⟩ := h
  exact ⟨h0, by rw [nblk_setCell]; exact h1, f, h2.setOther (by omega) v, fun j hj => (h3 j hj).kept fun b hb0 hb => blk_setCell_other _ _ _ _ (by omega), h4⟩
theorem MadeTo.drew {w : World} {s t n k g : Nat} {R : Nat → List Int} (h : MadeTo w s t n k g R) : MadeTo w.drew s t n k g R := ⟨h.g0, h.gle, h.top⟩
theorem MadeTo.grow {w : World} {s t n k g g' : Nat} {R : Nat → List Int} (h : MadeTo w s t n k g R) (hg : g ≤ g') (hg' : g' ≤ w.heap.size) : MadeTo w s t n k g' R := by
  obtain ⟨h0, h1, f, h2, h3, h4⟩ := h
  exact ⟨by omega, hg', f, h2, fun j hj => (h3 j hj).mono (Nat.le_refl _) hg, h4⟩
theorem rowV_nil (w : World) (B0 B : Nat) : RowV w B0 B (.slice none 0 0) [] := ⟨none, 0, rfl, by simp, by omega, fun i hi => absurd hi (by simp), fun h => absurd h (by simp)⟩
theorem MadeTo.skip {w : World} {s t n k g : Nat} {R : Nat → List Int} (h : MadeTo w s t n k g R) (e : R k = []) : MadeTo w s t n (k + 1) g R := by
  obtain ⟨h0, h1, f, h2, h3, h4⟩ := h
  refine ⟨h0, h1, f, h2, fun j hj => ?_, fun j hj => h4 j (by omega)⟩
  by_cases ej : j = k
  · subst ej; rw [h4 j (Nat.le_refl _), e]; exact rowV_nil _ _ _
  · exact h3 j (by omega)
/-- The row is full: its header is stored. -/
theorem MadeTo.next {w : World} {s t e n k g : Nat} {R : Nat → List Int} (h : MadeTo w s t n k g R) (hr : w.rowIs g e (R k).length (fillTo (R k) (R k).length)) (hl : (R k).length ≤ 9223372036854775807)
    (hz : ∀ i, i < (R k).length → -2147483648 ≤ (R k).getD i 0 ∧ (R k).getD i 0 ≤ 2147483647) :
    MadeTo (w.setCell ⟨s, k, none⟩ (.slice (some ⟨g, 0, none⟩) (R k).length (R k).length)) s t n (k + 1) (g + 1) R := by
  obtain ⟨h0, h1, f, h2, h3, h4⟩ := h
  have hg := hr.lt
  refine ⟨by omega, by rw [nblk_setCell]; omega, _, h2.set k _, fun j hj => ?_, fun j hj => by rw [if_neg (by omega)]; exact h4 j (by omega)⟩
  by_cases ej : j = k
  · subst ej
    rw [if_pos rfl]
    refine ⟨_, _, rfl, Nat.le_refl _, hl, hz, fun _ => ⟨g, 0, by omega, by omega, rfl, fun i hi => ?_⟩⟩
    have := (hr.setOther (a := ⟨s, j, none⟩) (by show g ≠ s; omega) (.slice (some ⟨g, 0, none⟩) (R j).length (R j).length)).cell hi
    simpa [fillTo, hi] using this
  · rw [if_neg ej]
    exact ((h3 j (by omega)).kept fun b hb0 hb => blk_setCell_other _ _ _ _ (by show b ≠ s; omega)).mono (Nat.le_refl _) (by omega)
theorem MadeTo.done {w : World} {s t n g : Nat} {R : Nat → List Int} (h : MadeTo w s t n n g R) : RowsAt w s g s 0 n R := by
  obtain ⟨h0, h1, f, h2, h3, h4⟩ := h
  exact ⟨Nat.le_refl _, h0, fun v hv => ⟨f v, by simpa using h2.cell hv, (h3 v hv).mono (by omega) (Nat.le_refl _)⟩⟩
theorem fill_zero (l : List Int) : (fun _ => Value.int .i32 0) = fillTo l 0 := by funext j; simp [fillTo]
theorem fill_step {w : World} {b e n : Nat} {l : List Int} {i : Nat} (h : w.rowIs b e n (fillTo l i)) : (w.setCell ⟨b, i, none⟩ (.int .i32 (l.getD i 0))).rowIs b e n (fillTo l (i + 1)) := by
  refine (h.set i _).congr fun j _ => ?_
  unfold fillTo
  by_cases ej : j = i
  · subst ej; simp
  · rw [if_neg ej]
    by_cases hj : j < i
    · rw [if_pos hj, if_pos (by omega)]
    · rw [if_neg hj, if_neg (by omega)]

theorem lensUp_mono (R : Nat → List Int) (i j : Nat) (h : i ≤ j) : lensUp R i ≤ lensUp R j := by
  induction j with
  | zero => have : i = 0 := by omega
            subst this; exact Nat.le_refl _
  | succ m ih =>
    by_cases e : i = m + 1
    · rw [e]; exact Nat.le_refl _
    · have := ih (by omega)
      simp only [lensUp]; omega
theorem lens_le (R : Nat → List Int) (v n : Nat) (h : v < n) : (R v).length ≤ lensUp R n := by
  have := lensUp_mono R (v + 1) n h
  simp only [lensUp] at this
  omega

/-- The call answers a new table of the rows R. -/
def TablePost (n : Nat) (R : Nat → List Int) (w : World) (e : Ending) (w' : World) : Prop :=
  ∃ ab ao, e = .returned (.slice (some ⟨ab, ao, none⟩) n n) ∧ RowsAt w' w.heap.size w'.heap.size ab ao n R ∧ Below w.heap.size w w'

set_option maxHeartbeats 1600000 in
theorem clone_any (ab ao n c : Nat) (R : Nat → List Int) (B : Nat) (w : World) (hR : RowsAt w 0 B ab ao n R) (hB : B ≤ w.heap.size) (hb : n + lensUp R n ≤ 1048576) :
    Calls Try.prog 21 #[.slice (some ⟨ab, ao, none⟩) n c] w (TablePost n R w) := by
  have hmk := run_make_row' (P := Try.prog) 22 23 (.slice none 0 0) 24 Try.underlying22 Try.info23 rfl .i64 .i64 n (by omega) (by omega)
  have hq := fun (w : World) (a : Option Addr) (n c n' c' : Nat) => Lib.run_eql_slice_nil (P := Try.prog) w 22 23 a n c n' c' Try.underlying22
  go_enter Try.func21, Try.ntmps21
  go_wp2
  clear hmk hq
  go_loopg [4] n (fun g i wr => ∃ k : Nat, k ≤ n ∧ g = n - k ∧ i = .int .i64 k ∧ Below w.heap.size w wr ∧ MadeTo wr w.heap.size 23 n k wr.heap.size R)
  case atStart => exact ⟨0, Nat.zero_le _, rfl, rfl, (Below.refl _ _).alloc (Nat.le_refl _) _, by simpa using made_start w 23 n R⟩
  case round =>
    obtain ⟨k, hk, rfl, rfl, hbel, hM⟩ := hrel
    by_cases hlt : k < n
    · obtain ⟨wo, rfl⟩ : ∃ wo, wo = wr := ⟨wr, rfl⟩
      obtain ⟨val, hc, A, C, rfl, hl1, hl2, hz, hA⟩ := (hR.below hbel hB).2.2 k hlt
      have hlen := lens_le R k n hlt
      have hq := fun (w : World) (a : Option Addr) (n c n' c' : Nat) => Lib.run_eql_slice_nil (P := Try.prog) w 23 21 a n c n' c' Try.underlying23
      cases A with
      | none =>
        have e : R k = [] := by
          cases h : R k with
          | nil => rfl
          | cons x t => rw [h] at hA; obtain ⟨b, o, _, _, e, _⟩ := hA (by simp); cases e
        have hM' := hM.skip e
        clear hM hR hz hA e
        go_wp2
        go_roundg (n - (k + 1))
        case measure => omega
        case rel => exact ⟨k + 1, by omega, rfl, by go_num, hbel, hM'⟩
      | some a' =>
        have hmk := run_make_row' (P := Try.prog) 23 21 (.int .i32 0) 4 Try.underlying23 Try.info21 rfl .i64 .i64 (R k).length (by omega) (by omega)
        have hM0 := hM.alloc (.cells (madeCells #[.int .i32 0] (R k).length) 21)
        have hr0 := World.rowIs_made wo (.int .i32 0) (R k).length 21
        have hbel0 := hbel.alloc hbel.size (.cells (madeCells #[.int .i32 0] (R k).length) 21)
        clear hM hA
        go_wp2
        clear hmk hq
        go_loopg [6] (R k).length (fun g i wi => ∃ j : Nat, j ≤ (R k).length ∧ g = (R k).length - j ∧ i = .int .i64 j ∧ Below w.heap.size w wi ∧ wi.heap.size = wo.heap.size + 1 ∧ MadeTo wi w.heap.size 23 n k wo.heap.size R ∧ wi.rowIs wo.heap.size 21 (R k).length (fillTo (R k) j))
        case atStart => exact ⟨0, Nat.zero_le _, rfl, rfl, hbel0, by simp, hM0, by rw [← fill_zero]; exact hr0⟩
        case round =>
          obtain ⟨j, hj, rfl, rfl, hbi, hsz, hMi, hri⟩ := hrel
          clear hM0 hr0 hbel0 hc hbel
          by_cases hjl : j < (R k).length
          · obtain ⟨b, o, C', z, hc, hcz, e, hbB, _, hl, hz1, hz2⟩ := (hR.below hbi hB).elem hlt hjl
            have hnew : wr.cell? ⟨wo.heap.size, j, none⟩ = some (.int .i32 0) := by
              have := hri.cell hjl
              simpa [fillTo] using this
            have hfz := hri.frozen j
            have H : Hid (Below w.heap.size w (wr.setCell ⟨wo.heap.size, j, none⟩ (.int .i32 z)) ∧ MadeTo (wr.setCell ⟨wo.heap.size, j, none⟩ (.int .i32 z)) w.heap.size 23 n k wo.heap.size R ∧ (wr.setCell ⟨wo.heap.size, j, none⟩ (.int .i32 z)).rowIs wo.heap.size 21 (R k).length (fillTo (R k) (j + 1))) :=
              ⟨hbi.setCell (by show w.heap.size ≤ wo.heap.size; have := hMi.g0; omega) _, hMi.setOther (Or.inr (Nat.le_refl _)) _, by rw [← e]; exact fill_step hri⟩
            clear hMi hri hbi e hR hz
            go_wp2
            go_roundg ((R k).length - (j + 1))
            case measure => omega
            case rel => exact ⟨j + 1, by omega, rfl, by go_num, H.out.1, by rw [nblk_setCell]; exact hsz, H.out.2.1, H.out.2.2⟩
          · have ej : j = (R k).length := by omega
            subst ej
            obtain ⟨A', C', hc, hl⟩ := (hR.below hbi hB).head hlt
            obtain ⟨f, hf, hf1, hf2⟩ := hMi.top
            have htop := hf.cell hlt
            have hfz := hf.frozen k
            have H := hMi.next hri hl hz
            have H' : Hid (MadeTo (wr.setCell ⟨w.heap.size, k, none⟩ (.slice (some ⟨wo.heap.size, 0, none⟩) (R k).length (R k).length)) w.heap.size 23 n (k + 1) (wo.heap.size + 1) R) := H
            clear hMi hri hf hf1 hf2 hR hz H
            go_wp2
            go_roundg (n - (k + 1))
            case measure => omega
            case rel => exact ⟨k + 1, by omega, rfl, by go_num, hbi.setCell (Nat.le_refl _) _, by rw [nblk_setCell, hsz]; exact H'.out⟩
    · have e : k = n := by omega
      subst e
      have H : TablePost k R w (.returned (.slice (some ⟨w.heap.size, 0, none⟩) k k)) wr := ⟨_, _, rfl, hM.done, hbel⟩
      clear hR hM hbel
      go_wp2
      go_ret
      exact H
end Go.Proofs.Qxb6000686a
