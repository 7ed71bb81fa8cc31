/-
  The seat's own text: the walk of stmt at an ON GOTO.
-/
import Derived.Test.Qxb6002364aStmt
namespace Go.Proofs.Qxb6002364a
open Go.RowKit Go.Deep

def lin (E : Env) (l i : Nat) : List Int := (List.range i).map fun j => lineAt E.Lns (l + j)
theorem lin_len (E : Env) (l i : Nat) : (lin E l i).length = i := by simp [lin]
theorem lin_succ (E : Env) (l i : Nat) : lin E l (i + 1) = lin E l i ++ [lineAt E.Lns (l + i)] := by simp [lin, List.range_succ]
def fillF (E : Env) (l i : Nat) : Nat → Value := fun j => if j < i then .int .i64 (lineAt E.Lns (l + j)) else .int .i64 0
theorem fill_zero (E : Env) (l : Nat) : (fun _ => Value.int .i64 0) = fillF E l 0 := by funext j; simp [fillF]
theorem fill_step {E : Env} {w : World} {b n l i : Nat} (h : w.rowIs b 3 n (fillF E l i)) : (w.setCell ⟨b, i, none⟩ (.int .i64 (lineAt E.Lns (l + i)))).rowIs b 3 n (fillF E l (i + 1)) := by
  refine (h.set i _).congr fun j _ => ?_
  unfold fillF
  by_cases ej : j = i
  · subst ej; simp
  · rw [if_neg ej]
    by_cases hj : j < i
    · rw [if_pos hj, if_pos (by omega)]
    · rw [if_neg hj, if_neg (by omega)]
theorem fill_full {E : Env} {w : World} {b n l : Nat} (h : w.rowIs b 3 n (fillF E l n)) : w.rowIs b 3 (lin E l n).length (rowF (lin E l n)) := by
  rw [lin_len]
  refine h.congr fun j hj => ?_
  unfold fillF rowF
  rw [if_pos hj]
  simp [lin, hj]

/-- The ON GOTO's two rows in the making, beside the builder's state. -/
structure On (E : Env) (w wi : World) (s k l c i n g1 g2 : Nat) (ws : List Int) (os ss : List Value) (rows : List (Nat × List Int)) (wv ov sv : Value) : Prop where
  b : Bld E wi s k (l + i) c (ws ++ lin E l i) os ss rows wv ov sv
  r1 : wi.rowIs g1 3 n (fillF E l i)
  r2 : wi.rowIs g2 3 n (fillF E l i)
  n1 : s < g1 ∧ wv.ownBlock ≠ some g1 ∧ ov.ownBlock ≠ some g1 ∧ sv.ownBlock ≠ some g1 ∧ ∀ p ∈ rows, p.1 ≠ g1
  n2 : s < g2 ∧ wv.ownBlock ≠ some g2 ∧ ov.ownBlock ≠ some g2 ∧ sv.ownBlock ≠ some g2 ∧ ∀ p ∈ rows, p.1 ≠ g2
  ne : g1 ≠ g2
  bel : Below s w wi

theorem on_start {E : Env} {w wx : World} {s k l c n : Nat} {ws : List Int} {os ss : List Value} {rows : List (Nat × List Int)} {wv ov sv : Value} (hB : Bld E wx s k l c ws os ss rows wv ov sv) (hb : Below s w wx) :
    On E w ((wx.alloc (.cells (madeCells #[.int .i64 0] n) 3)).alloc (.cells (madeCells #[.int .i64 0] n) 3)) s k l c 0 n wx.heap.size (wx.heap.size + 1) ws os ss rows wv ov sv := by
  have hs := hB.st.lt
  refine ⟨?_, ?_, ?_, hB.new (Nat.le_refl _), hB.new (by omega), by omega, (hb.alloc (by omega) _).alloc (by simp; omega) _⟩
  · have := (hB.alloc (.cells (madeCells #[.int .i64 0] n) 3)).alloc (.cells (madeCells #[.int .i64 0] n) 3)
    simpa [lin] using this
  · rw [← fill_zero]
    exact (World.rowIs_made wx _ n 3).alloc _
  · rw [← fill_zero]
    have := World.rowIs_made (wx.alloc (.cells (madeCells #[.int .i64 0] n) 3)) (.int .i64 0) n 3
    rw [nblk_alloc] at this
    exact this
/-- 'v := b.nextLine(); ls[i] = v; snap[i] = v'. -/
theorem on_line {E : Env} {w wi w1 : World} {s k l c i n g1 g2 : Nat} {ws : List Int} {os ss : List Value} {rows : List (Nat × List Int)} {wv ov sv : Value} (h : On E w wi s k l c i n g1 g2 ws os ss rows wv ov sv) (ho : Only s wi w1)
    (hs : w1.rowIs s 32 9 (bF (.slice E.kA E.Ks.length E.kc) (.slice E.lA E.Lns.length E.lc) (.slice E.cA E.Cs.length E.cc) k ((l + i : Nat) + 1 : Int) c wv ov sv)) :
    let w2 := (w1.setCell ⟨g1, i, none⟩ (.int .i64 (lineAt E.Lns (l + i)))).setCell ⟨g2, i, none⟩ (.int .i64 (lineAt E.Lns (l + i)))
    Bld E w2 s k (l + (i + 1)) c (ws ++ lin E l i) os ss rows wv ov sv ∧ w2.rowIs g1 3 n (fillF E l (i + 1)) ∧ w2.rowIs g2 3 n (fillF E l (i + 1)) ∧ Below s w w2 := by
  have hB1 : Bld E w1 s k (l + (i + 1)) c (ws ++ lin E l i) os ss rows wv ov sv := h.b.only ho (by
    have e : (((l + (i + 1) : Nat)) : Int) = ((l + i : Nat) : Int) + 1 := by omega
    rw [e]; exact hs)
  have h1 := h.n1.1; have h2 := h.n2.1; have h3 := h.ne
  refine ⟨(hB1.store _ h.n1).store _ h.n2, ?_, ?_, ?_⟩
  · exact (fill_step (h.r1.of_block (w' := w1) (ho.block g1 (by omega)))).setOther (by show g1 ≠ g2; omega) _
  · exact fill_step ((h.r2.of_block (w' := w1) (ho.block g2 (by omega))).setOther (by show g2 ≠ g1; omega) _)
  · exact ((h.bel.trans ho.below).setCell (by show s ≤ g1; omega) _).setCell (by show s ≤ g2; omega) _
/-- 'b.want = append(b.want, v)'. -/
theorem on_want {E : Env} {w w2 w3 : World} {s k l c i n g1 g2 : Nat} {ws : List Int} {os ss : List Value} {rows : List (Nat × List Int)} {wv ov sv : Value} {o : Obj} {g cap : Nat}
    (hB : Bld E w2 s k (l + (i + 1)) c (ws ++ lin E l i) os ss rows wv ov sv) (r1 : w2.rowIs g1 3 n (fillF E l (i + 1))) (r2 : w2.rowIs g2 3 n (fillF E l (i + 1)))
    (n1 : s < g1 ∧ wv.ownBlock ≠ some g1 ∧ ov.ownBlock ≠ some g1 ∧ sv.ownBlock ≠ some g1 ∧ ∀ p ∈ rows, p.1 ≠ g1) (n2 : s < g2 ∧ wv.ownBlock ≠ some g2 ∧ ov.ownBlock ≠ some g2 ∧ sv.ownBlock ≠ some g2 ∧ ∀ p ∈ rows, p.1 ≠ g2) (ne : g1 ≠ g2) (hb : Below s w w2)
    (hown : w3.ownsRow (s + 1) 3 1 (.slice (some ⟨g, 0, none⟩) ((ws ++ lin E l i).length + 1) cap) ((ws ++ lin E l i).length + 1) ((ws ++ lin E l i).map (Value.int .i64) ++ [.int .i64 (lineAt E.Lns (l + i))])) (hgrow : (w2.alloc o).grownBy w3 wv.ownBlock) (hat : wv.ownBlock = some g ∨ g = w2.heap.size + 1) :
    w3.rowIs s 32 9 (bF (.slice E.kA E.Ks.length E.kc) (.slice E.lA E.Lns.length E.lc) (.slice E.cA E.Cs.length E.cc) k ((l + (i + 1) : Nat) : Int) c wv ov sv) ∧
    On E w (w3.setCell ⟨s, 6, none⟩ (.slice (some ⟨g, 0, none⟩) ((ws ++ lin E l i).length + 1) cap)) s k l c (i + 1) n g1 g2 ws os ss rows (.slice (some ⟨g, 0, none⟩) ((ws ++ lin E l i).length + 1) cap) ov sv := by
  have hs := hB.st.lt
  have l1 := r1.lt; have l2 := r2.lt
  obtain ⟨hst, hB3⟩ := hB.wanted hown hgrow hat
  have key : ∀ g', w2.heap.size > g' → wv.ownBlock ≠ some g' → (Value.slice (some ⟨g, 0, none⟩) ((ws ++ lin E l i).length + 1) cap).ownBlock ≠ some g' := by
    intro g' hlt hne e
    simp only [Value.ownBlock, Option.some.injEq] at e
    subst e
    rcases hat with hat | hat
    · exact hne hat
    · omega
  refine ⟨hst, by rw [lin_succ, ← List.append_assoc]; exact hB3, ?_, ?_, ⟨n1.1, key g1 l1 n1.2.1, n1.2.2⟩, ⟨n2.1, key g2 l2 n2.2.1, n2.2.2⟩, ne, ?_⟩
  · exact ((r1.alloc o).of_block (w' := w3) (hgrow.block g1 (by simp; omega) (fun e => n1.2.1 e.symm))).setOther (by show g1 ≠ s; omega) _
  · exact ((r2.alloc o).of_block (w' := w3) (hgrow.block g2 (by simp; omega) (fun e => n2.2.1 e.symm))).setOther (by show g2 ≠ s; omega) _
  · exact ((hb.alloc (by omega) _).grown hgrow (by simp; omega) (fun k hk => by have := (hB.want.lt k hk).1; omega)).setCell (Nat.le_refl _) _

set_option maxHeartbeats 3200000 in
theorem stmt_3 (E : Env) (w : World) (s k l c d op : Nat) (ws : List Int) (os ss : List Value) (rows : List (Nat × List Int)) (wv ov sv : Value) (hB : Bld E w s k l c ws os ss rows wv ov sv) (hP : Pairs os ss rows) (hL : Lim E k l c ws os) (hk : k < E.Ks.length) (hkl : E.Ks.length ≤ 64) (hop : E.Ks.getD k 0 = op) (ho : op < 256) (hn : op % 8 = 3) :
    Calls Try.prog 10 #[.pointer (some ⟨s, 0, none⟩), .int .i64 d] w (SPost E s d k ws rows w) := by
  have c3 : w.cell? ⟨s, 3, none⟩ = some (.int .i64 k) := hB.st.cell (i := 3) (by omega)
  have f3 := hB.st.frozen 3
  obtain ⟨kb, ko, hkA, _, hkc⟩ := hB.ka (by omega)
  have hcell : w.cell? ⟨kb, ko + k, none⟩ = some (.int .u8 ((op : Nat) : Int)) := by rw [← hop]; exact hkc k hk
  have c0 : w.cell? ⟨s, 0, none⟩ = some (.slice (some ⟨kb, ko, none⟩) E.Ks.length E.kc) := by rw [← hkA]; exact hB.st.cell (i := 0) (by omega)
  have hk1 : (k : Int) < (E.Ks.length : Int) := by omega
  have hk0 : (0 : Int) ≤ (k : Int) := by omega
  have HH : Hid (∀ q, Bld E ((w.drewN q).setCell ⟨s, 3, none⟩ (.int .i64 ((k : Int) + 1))) s (k + 1) l c ws os ss rows wv ov sv ∧ Below s w ((w.drewN q).setCell ⟨s, 3, none⟩ (.int .i64 ((k : Int) + 1)))) := fun q => head_bld hB q
  have hL0 : l ≤ 4 * k ∧ c ≤ k ∧ ws.length ≤ 4 * k ∧ os.length ≤ k := ⟨hL.l, hL.c, hL.ws, hL.os⟩
  have HP : Hid (Pairs os ss rows) := hP
  have g0 : (((op : Nat) : Int) % 8 == 0) = false := beq_eq_false_iff_ne.2 (by omega)
  have g1 : (((op : Nat) : Int) % 8 == 1) = false := beq_eq_false_iff_ne.2 (by omega)
  have g2 : (((op : Nat) : Int) % 8 == 2) = false := beq_eq_false_iff_ne.2 (by omega)
  have g3 : (((op : Nat) : Int) % 8 == 3) = true := beq_iff_eq.2 (by omega)
  obtain ⟨n, hn5, hne⟩ : ∃ n : Nat, n ≤ 4 ∧ ((op : Nat) : Int) / 8 % 5 = (n : Int) := ⟨op / 8 % 5, by omega, by omega⟩
  have hmk := run_make_row' (P := Try.prog) 23 3 (.int .i64 0) 8 Try.underlying23 Try.info3 rfl .i64 .i64 n (by omega) (by omega)
  clear hB hL hP hkA hkc hop hn
  go_enter Try.func10, Try.ntmps10
  go_wp2_with fail
  go_quiet (fail)
  go_wp2_with fail
  go_quiet (fail)
  go_upto_region 20 with fail
  generalize hW : (w.drewN _).setCell ⟨s, 3, none⟩ (.int .i64 ((k : Int) + 1)) = wx
  obtain ⟨hBx, hbx⟩ : Bld E wx s (k + 1) l c ws os ss rows wv ov sv ∧ Below s w wx := by rw [← hW]; exact HH.out _
  have HO : Hid (On E w ((wx.alloc (.cells (madeCells #[.int .i64 0] n) 3)).alloc (.cells (madeCells #[.int .i64 0] n) 3)) s (k + 1) l c 0 n wx.heap.size (wx.heap.size + 1) ws os ss rows wv ov sv) := on_start hBx hbx
  clear hW HH c3 f3 hcell c0 g0 g1 g2 g3 hBx hbx
  go_wp2_with fail
  rw [hne]
  generalize decide (E.Ks.length ≤ k) = dd
  clear hne hmk
  have hsx : s < wx.heap.size := HO.out.n1.1
  obtain ⟨b1, hb1⟩ : ∃ b1, b1 = wx.heap.size := ⟨_, rfl⟩
  obtain ⟨i0, hi, hi0, hi1, hi2⟩ := info_parts Try.info3
  go_loopg [11] n (fun gi t wi => ∃ (i : Nat) (wv' : Value), i ≤ n ∧ gi = n - i ∧ t = .int .i64 i ∧ On E w wi s (k + 1) l c i n wx.heap.size (wx.heap.size + 1) ws os ss rows wv' ov sv)
  case atStart => exact ⟨0, wv, Nat.zero_le _, rfl, rfl, HO.out⟩
  case round =>
    obtain ⟨i, wv1, hin, rfl, rfl, hO⟩ := hrel
    have HO1 : Hid (On E w wr s (k + 1) l c i n wx.heap.size (wx.heap.size + 1) ws os ss rows wv1 ov sv) := hO
    clear hO HO
    by_cases hil : i < n
    · go_wp2_with fail
      refine (line_any s E.lc (l + i) E.lA E.Lns s _ _ wv1 ov sv _ _ wr HO1.out.b.st HO1.out.b.la (by omega)).mono ?_
      rintro e w1 ⟨rfl, hs1, ho1⟩
      have HL1 := on_line HO1.out ho1 hs1
      have hr1 := HO1.out.r1.of_block (w' := w1) (ho1.block wx.heap.size (by omega))
      have hr2 := HO1.out.r2.of_block (w' := w1) (ho1.block (wx.heap.size + 1) (by omega))
      have d1 : w1.cell? ⟨wx.heap.size, i, none⟩ = some (.int .i64 0) := by simpa [fillF] using hr1.cell hil
      have d2 : w1.cell? ⟨wx.heap.size + 1, i, none⟩ = some (.int .i64 0) := by simpa [fillF] using hr2.cell hil
      have q1 := hr1.frozen i
      have q2 := hr2.frozen i
      have hii : (i : Int) < (n : Int) := by omega
      clear hr1 hr2 hs1
      go_upto_region 28 with fail
      obtain ⟨hB2, hR1, hR2, hbel2⟩ := HL1
      clear d1 d2 q1 q2
      generalize (w1.setCell ⟨wx.heap.size, i, none⟩ (.int .i64 (lineAt E.Lns (l + i)))).setCell ⟨wx.heap.size + 1, i, none⟩ (.int .i64 (lineAt E.Lns (l + i))) = w2 at *
      have HB2 : Hid (Bld E w2 s (k + 1) (l + (i + 1)) c (ws ++ lin E l i) os ss rows wv1 ov sv ∧ w2.rowIs wx.heap.size 3 n (fillF E l (i + 1)) ∧ w2.rowIs (wx.heap.size + 1) 3 n (fillF E l (i + 1)) ∧ Below s w w2) := ⟨hB2, hR1, hR2, hbel2⟩
      have c6 : w2.cell? ⟨s, 6, none⟩ = some wv1 := hB2.st.cell (i := 6) (by omega)
      have hs2 := hB2.st.lt
      have hwl : (ws ++ lin E l i).length ≤ 1000 := by rw [List.length_append, lin_len]; omega
      have KEY : Hid (∀ (o : Obj) (g cap : Nat) (w3 : World), w3.ownsRow (s + 1) 3 1 (.slice (some ⟨g, 0, none⟩) ((ws ++ lin E l i).length + 1) cap) ((ws ++ lin E l i).length + 1) ((ws ++ lin E l i).map (Value.int .i64) ++ [.int .i64 (lineAt E.Lns (l + i))]) → (w2.alloc o).grownBy w3 wv1.ownBlock → (wv1.ownBlock = some g ∨ g = w2.heap.size + 1) →
          w3.cell? ⟨s, 6, none⟩ = some wv1 ∧ w3.frozen? ⟨s, 6, none⟩ = false ∧ On E w (w3.setCell ⟨s, 6, none⟩ (.slice (some ⟨g, 0, none⟩) ((ws ++ lin E l i).length + 1) cap)) s (k + 1) l c (i + 1) n wx.heap.size (wx.heap.size + 1) ws os ss rows (.slice (some ⟨g, 0, none⟩) ((ws ++ lin E l i).length + 1) cap) ov sv) := by
        intro o g cap w3 h1 h2 h3
        obtain ⟨hst3, hO3⟩ := on_want HB2.out.1 HB2.out.2.1 HB2.out.2.2.1 HO1.out.n1 HO1.out.n2 HO1.out.ne HB2.out.2.2.2 h1 h2 h3
        exact ⟨hst3.cell (i := 6) (by omega), hst3.frozen 6, hO3⟩
      have HOW : Hid (w2.ownsRow (s + 1) 3 1 wv1 (ws ++ lin E l i).length ((ws ++ lin E l i).map (Value.int .i64))) := hB2.want
      clear hB2 hR1 hR2 hbel2 ho1 HB2
      generalize ws ++ lin E l i = wl at *
      generalize lineAt E.Lns (l + i) = z at *
      go_wp2_with (at_builtin; go_must (refine wpList_append_lies _ rfl _ _ 23 rfl (s + 1) 3 i0 (.int .i64 0) 1 8 Try.underlying23 hi hi0 hi1 hi2 rfl (by omega) wv1 wl.length (wl.map (Value.int .i64)) rfl (HOW.out.alloc _) ⟨w2.heap.size, 0, none⟩ 1 1 [.int .i64 z] rfl rfl (cell_one_new _ _ _) ?c1 (by omega) (by unfold maxLen; omega) (by omega) (by simp; omega) (w2.heap.size + 1) (by simp) ?c2))
      case c1 => intro u hu; simp at hu; subst hu; rfl
      case c2 =>
        intro g cap w3 hown hgrow hat hglt
        obtain ⟨c6', f6, hO3⟩ := KEY.out _ g cap w3 hown hgrow hat
        have HO3 : Hid (On E w (w3.setCell ⟨s, 6, none⟩ (.slice (some ⟨g, 0, none⟩) (wl.length + 1) cap)) s (k + 1) l c (i + 1) n wx.heap.size (wx.heap.size + 1) ws os ss rows (.slice (some ⟨g, 0, none⟩) (wl.length + 1) cap) ov sv) := hO3
        clear hO3 hown hgrow hat KEY HOW HO1
        go_wp2_with fail
        go_roundg (n - (i + 1))
        case measure => omega
        case rel => exact ⟨i + 1, _, by omega, rfl, by go_num, HO3.out⟩
    · have ei : n = i := by omega
      obtain ⟨j0, hj, hj0, hj1, hj2⟩ := info_parts Try.info23
      obtain ⟨hB, hR1, hR2, hn1, hn2, hne, hbel⟩ := HO1.out
      rw [← ei] at hB hR1 hR2
      have hB2 := (hB.addRow hn1.1 hn1.2.1 (fill_full hR1)).addRow hn2.1 hn2.2.1 (fill_full hR2)
      rw [List.append_assoc] at hB2
      have HB2 : Hid (Bld E wr s (k + 1) (l + n) c (ws ++ lin E l n) os ss (rows ++ ([(wx.heap.size, lin E l n)] ++ [(wx.heap.size + 1, lin E l n)])) wv1 ov sv) := hB2
      have HBL : Hid (Below s w wr) := hbel
      have c7 : wr.cell? ⟨s, 7, none⟩ = some ov := hB.st.cell (i := 7) (by omega)
      have hsr := hB.st.lt
      clear hB hR1 hR2 hn1 hn2 hne hbel hB2 HO1 ei
      have hol : os.length ≤ 1000 := by omega
      have hsl : ss.length ≤ 1000 := by have := HP.out.1; omega
      go_wp2_with (at_builtin; go_must (refine wpList_append_lies _ rfl _ _ 30 rfl (s + 1) 23 j0 (.slice none 0 0) 1 24 Try.underlying30 hj hj0 hj1 hj2 rfl (by omega) ov os.length os rfl (HB2.out.ons.alloc _) ⟨wr.heap.size, 0, none⟩ 1 1 [.slice (some ⟨wx.heap.size, 0, none⟩) n n] rfl rfl (cell_one_new _ _ _) ?c3 (by omega) (by unfold maxLen; omega) (by omega) (by simp; omega) (wr.heap.size + 1) (by simp) ?c4))
      case c3 => intro u hu; simp at hu; subst hu; rfl
      case c4 =>
        intro g cap w3 hown hgrow hat hglt
        obtain ⟨hst3, hB3⟩ := HB2.out.onsed hown hgrow hat
        have c7' : w3.cell? ⟨s, 7, none⟩ = some ov := hst3.cell (i := 7) (by omega)
        have f7 := hst3.frozen 7
        have hb3 : Below s w (w3.setCell ⟨s, 7, none⟩ (.slice (some ⟨g, 0, none⟩) (os.length + 1) cap)) := ((HBL.out.alloc (by omega) _).grown hgrow (by simp; omega) (fun k hk => by have := (HB2.out.ons.lt k hk).1; omega)).setCell (Nat.le_refl _) _
        clear hst3 hown hgrow hat hglt HB2 HBL
        go_upto_region 30 with fail
        generalize w3.setCell ⟨s, 7, none⟩ (.slice (some ⟨g, 0, none⟩) (os.length + 1) cap) = w4 at *
        have c8 : w4.cell? ⟨s, 8, none⟩ = some sv := hB3.st.cell (i := 8) (by omega)
        have hs4 := hB3.st.lt
        have HB3 : Hid (Bld E w4 s (k + 1) (l + n) c (ws ++ lin E l n) (os ++ [.slice (some ⟨wx.heap.size, 0, none⟩) n n]) ss (rows ++ ([(wx.heap.size, lin E l n)] ++ [(wx.heap.size + 1, lin E l n)])) wv1 (.slice (some ⟨g, 0, none⟩) (os.length + 1) cap) sv) := hB3
        clear hB3 c7 c7' f7
        go_wp2_with (at_builtin; go_must (refine wpList_append_lies _ rfl _ _ 30 rfl (s + 1) 23 j0 (.slice none 0 0) 1 24 Try.underlying30 hj hj0 hj1 hj2 rfl (by omega) sv ss.length ss rfl (HB3.out.snaps.alloc _) ⟨w4.heap.size, 0, none⟩ 1 1 [.slice (some ⟨wx.heap.size + 1, 0, none⟩) n n] rfl rfl (cell_one_new _ _ _) ?c5 (by omega) (by unfold maxLen; omega) (by omega) (by simp; omega) (w4.heap.size + 1) (by simp) ?c6))
        case c5 => intro u hu; simp at hu; subst hu; rfl
        case c6 =>
          intro g' cap' w5 hown hgrow hat hglt
          obtain ⟨hst5, hB5⟩ := HB3.out.snapped hown hgrow hat
          have c8' : w5.cell? ⟨s, 8, none⟩ = some sv := hst5.cell (i := 8) (by omega)
          have f8 := hst5.frozen 8
          have hb5 : Below s w (w5.setCell ⟨s, 8, none⟩ (.slice (some ⟨g', 0, none⟩) (ss.length + 1) cap')) := ((hb3.alloc (by omega) _).grown hgrow (by simp; omega) (fun k hk => by have := (HB3.out.snaps.lt k hk).1; omega)).setCell (Nat.le_refl _) _
          have HF : Hid (∀ v, Leaf (rows ++ ([(wx.heap.size, lin E l n)] ++ [(wx.heap.size + 1, lin E l n)])) v (lin E l n) → SPost E s d k ws rows w (.returned v) (w5.setCell ⟨s, 8, none⟩ (.slice (some ⟨g', 0, none⟩) (ss.length + 1) cap'))) := by
            intro v hv
            have e1 : Value.slice (some ⟨wx.heap.size, 0, none⟩) n n = sl wx.heap.size (lin E l n) := by unfold sl; rw [lin_len]
            have e2 : Value.slice (some ⟨wx.heap.size + 1, 0, none⟩) n n = sl (wx.heap.size + 1) (lin E l n) := by unfold sl; rw [lin_len]
            refine ⟨v, lin E l n, k + 1, l + n, c, _, _, _, _, _, _, rfl, hB5, ?_, ⟨by omega, by omega, by rw [List.length_append, lin_len]; omega, by simp; omega, by omega⟩, leaf_stmt _ hv, fun p hp => List.mem_append_left _ hp, by omega, hb5⟩
            rw [e1, e2]
            exact (HP.out.more fun p hp => List.mem_append_left _ hp).next (by simp) (by simp) (by rw [lin_len]; omega)
          clear hst5 hown hgrow hat hglt HB3 hB5
          go_wp2_with fail
          go_ret
          exact HF.out _ (.inr (.inr (.inr ⟨wx.heap.size, lin E l n, _, _, by unfold sl; rw [lin_len]; rfl, by simp, rfl⟩)))
end Go.Proofs.Qxb6002364a
