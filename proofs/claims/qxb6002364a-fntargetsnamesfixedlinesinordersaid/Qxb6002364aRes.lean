/-
  The seat's own text: what Targets hands back, and what append makes of two such slices.
-/
import Derived.Test.Qxb6002364aBld
import Derived.ArgAppend
namespace Go.Proofs.Qxb6002364a
open Go.RowKit Go.Deep

theorem orMap {a b c d : Prop} (h : a ∨ b) (f : a → c) (g : b → d) : c ∨ d := by
  cases h with
  | inl h => exact .inl (f h)
  | inr h => exact .inr (g h)

/-- A slice of the numbers ts: nil; or without spare room; or its spare room lies in memory from block B on and may be written. -/
def Res (B : Nat) (w : World) (v : Value) (ts : List Int) : Prop :=
  (v = .slice none 0 0 ∧ ts = []) ∨ ∃ b o cap, v = .slice (some ⟨b, o, none⟩) ts.length cap ∧ ts.length ≤ cap ∧ cap ≤ maxLen ∧ b < w.heap.size ∧
    (∀ i, i < ts.length → w.cell? ⟨b, o + i, none⟩ = some (.int .i64 (ts.getD i 0))) ∧ (cap = ts.length ∨ (B ≤ b ∧ ∀ j, j < cap - ts.length → (w.cell? ⟨b, o + ts.length + j, none⟩).isSome = true ∧ w.frozen? ⟨b, o + ts.length + j, none⟩ = false))

theorem Res.kept {B : Nat} {w w' : World} {v : Value} {ts : List Int} (h : Res B w v ts) (hb : Below w.heap.size w w') : Res B w' v ts := by
  rcases h with h | ⟨b, o, cap, h1, h2, h3, h4, h5, h6⟩
  · exact .inl h
  · refine .inr ⟨b, o, cap, h1, h2, h3, Nat.lt_of_lt_of_le h4 hb.size, fun i hi => (hb.cell (p := ⟨b, o + i, none⟩) h4).trans (h5 i hi), orMap h6 id fun h => ⟨h.1, fun j hj => ?_⟩⟩
    rw [hb.cell (p := ⟨b, o + ts.length + j, none⟩) h4, hb.frozen (p := ⟨b, o + ts.length + j, none⟩) h4]
    exact h.2 j hj
theorem Res.mono {B B' : Nat} {w : World} {v : Value} {ts : List Int} (h : Res B w v ts) (hB : B' ≤ B) : Res B' w v ts := by
  rcases h with h | ⟨b, o, cap, h1, h2, h3, h4, h5, h6⟩
  · exact .inl h
  · exact .inr ⟨b, o, cap, h1, h2, h3, h4, h5, orMap h6 id fun h => ⟨Nat.le_trans hB h.1, h.2⟩⟩
theorem Res.own {B base : Nat} {w : World} {v : Value} {ts : List Int} (h : w.ownsRow base 3 1 v ts.length (ts.map (Value.int .i64))) (hB : B ≤ base) : Res B w v ts := by
  rcases h.2 with ⟨h1, h2⟩ | ⟨g, cap, cur, hv, hg, hh, hn, hm, hc, ht⟩
  · exact .inl ⟨h1, List.eq_nil_of_length_eq_zero h2⟩
  · have hlt : g < w.heap.size := (Array.getElem?_eq_some_iff.1 hh).1
    refine .inr ⟨g, 0, cap, hv, hn, hm, hlt, fun i hi => ?_, .inr ⟨by omega, fun j hj => ?_⟩⟩
    · rw [hv] at h
      rw [Nat.zero_add, h.cellAt i (by omega)]
      simp [hi]
    · rw [cell_of_row w g _ cur 3 (0, 0) hh]
      have : 0 + ts.length + j < cur.size := by omega
      simp only [Nat.zero_add] at this ⊢
      exact ⟨by simp [this], by simp [World.frozen?, hh]⟩

def valsOf (ts : List Int) : List Value := ts.map (Value.int .i64)
theorem vals_len (ts : List Int) : (valsOf ts).length = ts.length := by simp [valsOf]
theorem vals_get (ts : List Int) (j : Nat) (u : Value) (h : (valsOf ts)[j]? = some u) : j < ts.length ∧ u = .int .i64 (ts.getD j 0) := by
  have hj : j < ts.length := by
    have := (List.getElem?_eq_some_iff.1 h).1
    simpa [valsOf] using this
  simp [valsOf, hj] at h
  exact ⟨hj, by simp [hj, ← h]⟩
theorem vals_one (ts : List Int) : ∀ u ∈ valsOf ts, u.oneCell' = true := by
  intro u hu
  simp [valsOf] at hu
  obtain ⟨c, _, rfl⟩ := hu
  rfl
theorem res_cells {w : World} {ts : List Int} {b o : Nat} (h : ∀ i, i < ts.length → w.cell? ⟨b, o + i, none⟩ = some (.int .i64 (ts.getD i 0))) : ∀ j u, (valsOf ts)[j]? = some u → w.cell? ((⟨b, o, none⟩ : Addr).add j) = some u := by
  intro j u hu
  obtain ⟨hj, rfl⟩ := vals_get ts j u hu
  rw [show (⟨b, o, none⟩ : Addr).add j = ⟨b, o + j, none⟩ from by unfold Addr.add; split <;> simp_all]
  exact h j hj

theorem below_setCells (B b : Nat) (hb : B ≤ b) : ∀ (vs : List Value) (o : Nat) (w : World), Below B w (w.setCells b o vs)
  | [], _, _ => Below.refl _ _
  | v :: vs, o, w => ((Below.refl B w).setCell (p := ⟨b, o, none⟩) hb v).trans (below_setCells B b hb vs (o + 1) _)
theorem size_setCells (b : Nat) : ∀ (vs : List Value) (o : Nat) (w : World), (w.setCells b o vs).heap.size = w.heap.size
  | [], _, _ => rfl
  | v :: vs, o, w => (size_setCells b vs (o + 1) (w.setCell ⟨b, o, none⟩ v)).trans (nblk_setCell _ _ _)

theorem run_append_empty (w : World) (ty : TypeId) (x : Value) (xs : List Int) (B : Nat) (hx : Res B w x xs) (ad : Option Addr) (c : Nat) :
    (Builtin.append_ #[23, 23] ty #[x, .slice ad 0 c]).run Try.prog w = .ok x w := by
  obtain ⟨i0, hi, hi0, hi1, hi2⟩ := info_parts Try.info3
  rcases hx with ⟨rfl, _⟩ | ⟨b, o, cap, rfl, h2, _⟩
  · cases ad <;> simp [Builtin.append_, run_underlying Try.underlying23, sizeOf, typeInfo, hi, Builtin.lenOf, Builtin.firstCells, loadCells, loadCellsFrom]
  · cases ad <;> simp [Builtin.append_, run_underlying Try.underlying23, sizeOf, typeInfo, hi, Builtin.lenOf, Builtin.firstCells, loadCells, loadCellsFrom, h2, storeCells]

/-- append of two such slices. -/
theorem run_append_res (B : Nat) (w : World) (ty : TypeId) (x y : Value) (xs ys : List Int) (hx : Res B w x xs) (B' : Nat) (hy : Res B' w y ys) (hB : B ≤ w.heap.size) (hl : xs.length + ys.length ≤ 1000000) :
    ∃ v' w', (Builtin.append_ #[23, 23] ty #[x, y]).run Try.prog w = .ok v' w' ∧ Res B w' v' (xs ++ ys) ∧ Below B w w' := by
  obtain ⟨i0, hi, hi0, hi1, hi2⟩ := info_parts Try.info3
  rcases hy with ⟨rfl, rfl⟩ | ⟨b2, o2, c2, rfl, g1, g2, g3, g4, _⟩
  · rw [List.append_nil]
    exact ⟨x, w, run_append_empty w ty x xs B hx none 0, hx, Below.refl _ _⟩
  by_cases hys : ys.length = 0
  · have e : ys = [] := List.eq_nil_of_length_eq_zero hys
    subst e
    rw [List.append_nil]
    exact ⟨x, w, run_append_empty w ty x xs B hx _ c2, hx, Below.refl _ _⟩
  have hnews := res_cells g4
  rcases hx with ⟨rfl, rfl⟩ | ⟨b, o, cap, rfl, f1, f2, f3, f4, f5⟩
  · obtain ⟨v', w', hr, hown, hgr, _, _⟩ := run_append_own_at (P := Try.prog) w w.heap.size 23 ty 3 i0 (.int .i64 0) 1 8 Try.underlying23 hi hi0 hi1 hi2 rfl (by omega) (.slice none 0 0) 0 [] (World.ownsRow_nil _ _ _ _) ⟨b2, o2, none⟩ ys.length c2 (valsOf ys) (by rw [vals_len]; omega) hnews (vals_one ys) (by unfold maxLen; omega) (by omega) (Nat.le_refl _)
    refine ⟨v', w', hr, Res.own (by simpa [valsOf] using hown) hB, (Below.refl B w).grown hgr hB (fun k hk => by simp [Value.ownBlock] at hk)⟩
  · by_cases hroom : xs.length + ys.length ≤ cap
    · rcases f5 with f5 | ⟨f5, f6⟩
      · omega
      · have hr := run_append_room_cells (P := Try.prog) w 23 ty 3 i0 Try.underlying23 hi b o xs.length cap ⟨b2, o2, none⟩ ys.length c2 (valsOf ys) (by rw [vals_len, hi1]; omega) hnews (vals_one ys) hroom
          (fun j hj => by rw [vals_len] at hj; rw [hi1, Nat.mul_one]; exact (f6 j (by omega)).1) (fun j hj => by rw [vals_len] at hj; rw [hi1, Nat.mul_one]; exact (f6 j (by omega)).2)
        rw [hi1, Nat.mul_one] at hr
        refine ⟨_, _, hr, .inr ⟨b, o, cap, by rw [List.length_append], by rw [List.length_append]; exact hroom, f2, by rw [size_setCells]; exact f3, fun i hii => ?_, .inr ⟨f5, fun j hj => ?_⟩⟩, below_setCells B b f5 _ _ _⟩
        · rw [List.length_append] at hii
          by_cases hi' : i < xs.length
          · rw [World.cell?_setCells_out b (valsOf ys) (o + xs.length) w ⟨b, o + i, none⟩ (fun _ _ => .inl (by show o + i < o + xs.length; omega)), f4 i hi']
            rw [List.getD_eq_getElem?_getD, List.getD_eq_getElem?_getD, List.getElem?_append_left hi']
          · obtain ⟨t, rfl⟩ : ∃ t, i = xs.length + t := ⟨i - xs.length, by omega⟩
            have ht : t < (valsOf ys).length := by rw [vals_len]; omega
            rw [← Nat.add_assoc, World.cell?_setCells_in b (valsOf ys) (o + xs.length) w (fun j hj => by rw [vals_len] at hj; exact (f6 j (by omega)).1) t ht]
            have ht' : t < ys.length := by omega
            simp [valsOf, ht']
        · rw [List.length_append] at hj ⊢
          have e : o + (xs.length + ys.length) + j = o + xs.length + (ys.length + j) := by omega
          rw [e, World.cell?_setCells_out b (valsOf ys) (o + xs.length) w ⟨b, o + xs.length + (ys.length + j), none⟩ (fun _ _ => .inr (by rw [vals_len]; show o + xs.length + ys.length ≤ o + xs.length + (ys.length + j); omega)), World.frozen?_setCells]
          exact f6 (ys.length + j) (by omega)
    · obtain ⟨v', w', hr, hown, hgr⟩ := run_append_arg_grows (P := Try.prog) w 23 ty 3 i0 (.int .i64 0) 1 8 Try.underlying23 hi hi0 hi1 hi2 rfl (by omega) ⟨b, o, none⟩ xs.length cap (valsOf xs) (by rw [vals_len]; omega) (res_cells f4) ⟨b2, o2, none⟩ ys.length c2 (valsOf ys) (by rw [vals_len]; omega) hnews (by omega) (by unfold maxLen; omega) (by omega)
      refine ⟨v', w', hr, Res.own (base := w.heap.size) (by rw [List.length_append, List.map_append]; exact hown) hB, (Below.refl B w).grown hgr hB (fun k hk => by cases hk)⟩
end Go.Proofs.Qxb6002364a
