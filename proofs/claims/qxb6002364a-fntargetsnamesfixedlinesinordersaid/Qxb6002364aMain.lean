/-
  The seat's own text: the walk of the law.
-/
import Derived.Test.Qxb6002364aClones
namespace Go.Proofs.Qxb6002364a
open Go.RowKit Go.Deep

theorem ArrAt.mono {w : World} {B B' : Nat} {A : Option Addr} {n : Nat} {f : Nat → Value} (h : ArrAt w B A n f) (hB : B ≤ B') : ArrAt w B' A n f := fun hn => by
  obtain ⟨b, o, h1, h2, h3⟩ := h hn
  exact ⟨b, o, h1, by omega, h3⟩
theorem ArrAt.below {w w' : World} {B : Nat} {A : Option Addr} {n : Nat} {f : Nat → Value} (h : ArrAt w B A n f) (hb : Below B w w') : ArrAt w' B A n f := h.kept fun b hbb => hb.block b hbb

/-- All that the law's loops read. -/
structure Fin (w : World) (s : Nat) (gA wA oA sA : Option Addr) (wc oc sc n : Nat) (ts : List Int) : Prop where
  c6 : w.cell? ⟨s, 6, none⟩ = some (.slice wA ts.length wc)
  c7 : w.cell? ⟨s, 7, none⟩ = some (.slice oA n oc)
  c8 : w.cell? ⟨s, 8, none⟩ = some (.slice sA n sc)
  got : ArrAt w w.heap.size gA ts.length fun i => .int .i64 (ts.getD i 0)
  want : ArrAt w w.heap.size wA ts.length fun i => .int .i64 (ts.getD i 0)
  pair : ∀ i, i < n → ∃ b b' g g' L, oA = some ⟨b, 0, none⟩ ∧ sA = some ⟨b', 0, none⟩ ∧ w.cell? ⟨b, i, none⟩ = some (sl g L) ∧ w.cell? ⟨b', i, none⟩ = some (sl g' L) ∧ w.rowIs g 3 L.length (rowF L) ∧ w.rowIs g' 3 L.length (rowF L) ∧ L.length ≤ 1000
theorem Fin.drewN {w : World} {s : Nat} {gA wA oA sA : Option Addr} {wc oc sc n : Nat} {ts : List Int} (h : Fin w s gA wA oA sA wc oc sc n ts) (q : Nat) : Fin (w.drewN q) s gA wA oA sA wc oc sc n ts :=
  ⟨h.c6, h.c7, h.c8, h.got, h.want, h.pair⟩

theorem own_form {w : World} {base e n : Nat} {v : Value} {xs : List Value} (h : w.ownsRow base e 1 v n xs) : ∃ A c, v = .slice A n c ∧ (0 < n → ∃ g, A = some ⟨g, 0, none⟩ ∧ g < w.heap.size ∧ ∀ i u, xs[i]? = some u → i < n → w.cell? ⟨g, i, none⟩ = some u) := by
  rcases h.2 with ⟨h1, h2⟩ | ⟨g, cap, cur, hv, hg, hh, hn, hm, hc, ht⟩
  · exact ⟨none, 0, by rw [h1, h2], fun hn => by omega⟩
  · refine ⟨_, cap, hv, fun _ => ⟨g, rfl, (Array.getElem?_eq_some_iff.1 hh).1, fun i u hu hi => ?_⟩⟩
    rw [hv] at h
    rw [h.cellAt i (by omega), hu]

theorem Bld.fin {E : Env} {w : World} {s k l c : Nat} {ts : List Int} {os ss : List Value} {rows : List (Nat × List Int)} {wv ov sv gv : Value} {B : Nat} (h : Bld E w s k l c ts os ss rows wv ov sv) (hP : Pairs os ss rows) (hg : Res B w gv ts) :
    ∃ gA gc wA oA sA wc oc sc, gv = .slice gA ts.length gc ∧ Fin w s gA wA oA sA wc oc sc os.length ts := by
  obtain ⟨wA, wc, rfl, hw⟩ := own_form h.want
  obtain ⟨oA, oc, rfl, ho⟩ := own_form h.ons
  obtain ⟨sA, sc, rfl, hs⟩ := own_form h.snaps
  obtain ⟨gA, gc, rfl, hgot⟩ : ∃ gA gc, gv = .slice gA ts.length gc ∧ ArrAt w w.heap.size gA ts.length fun i => .int .i64 (ts.getD i 0) := by
    rcases hg with ⟨rfl, rfl⟩ | ⟨b, o, cap, rfl, h2, h3, h4, h5, h6⟩
    · exact ⟨none, 0, rfl, fun h => absurd h (Nat.lt_irrefl _)⟩
    · exact ⟨_, _, rfl, fun _ => ⟨b, o, rfl, h4, h5⟩⟩
  refine ⟨gA, gc, wA, oA, sA, wc, oc, sc, rfl, h.st.cell (i := 6) (by omega), h.st.cell (i := 7) (by omega), by rw [hP.1]; exact h.st.cell (i := 8) (by omega), hgot, fun hn => ?_, fun i hi => ?_⟩
  · obtain ⟨g, h1, h2, h3⟩ := hw hn
    exact ⟨g, 0, h1, h2, fun i hi => by rw [Nat.zero_add]; exact h3 i _ (by simp [hi]) hi⟩
  · obtain ⟨g, g', L, p1, p2, p3, p4, p5⟩ := hP.2 i hi
    obtain ⟨b, h1, _, h3⟩ := ho (by omega)
    obtain ⟨b', h1', _, h3'⟩ := hs (by rw [← hP.1]; omega)
    exact ⟨b, b', g, g', L, h1, h1', h3 i _ p1 hi, h3' i _ p2 (by rw [← hP.1]; exact hi), (h.lie _ p3).2.2, (h.lie _ p4).2.2, p5⟩

theorem grown_none {n : Nat} {w w' : World} (h : Below n w w') (e : n = w.heap.size) : w.grownBy w' none := ⟨h.os, h.tape, h.output, h.size, fun k hk _ => h.block k (by omega)⟩

def MainPost (w : World) (e : Ending) (w' : World) : Prop := e = .returned (.bool true) ∧ Below w.heap.size w w'

theorem bld_new (W : World) (A0 A1 A2 : Option Addr) (Ks : List Nat) (Lns : List Int) (Cs : List Bool)
    (h0 : ArrAt W W.heap.size A0 Ks.length (fun i => .int .u8 ((Ks.getD i 0 : Nat) : Int))) (h1 : ArrAt W W.heap.size A1 Lns.length (fun i => .int .i64 (Lns.getD i 0))) (h2 : ArrAt W W.heap.size A2 Cs.length (fun i => .bool (Cs.getD i false))) :
    Bld ⟨A0, A1, A2, Ks.length, Lns.length, Cs.length, Ks, Lns, Cs⟩ (W.alloc (.cells #[.slice A0 Ks.length Ks.length, .slice A1 Lns.length Lns.length, .slice A2 Cs.length Cs.length, .int .i64 0, .int .i64 0, .int .i64 0, .slice none 0 0, .slice none 0 0, .slice none 0 0] 32)) W.heap.size 0 0 0 [] [] [] [] (.slice none 0 0) (.slice none 0 0) (.slice none 0 0) := by
  refine ⟨World.rowIs_alloc W _ 32 _ (fun i hi => ?_), h0.kept fun b hb => blk_alloc_lt _ _ _ hb, h1.kept fun b hb => blk_alloc_lt _ _ _ hb, h2.kept fun b hb => blk_alloc_lt _ _ _ hb, World.ownsRow_nil _ _ _ _, World.ownsRow_nil _ _ _ _, World.ownsRow_nil _ _ _ _, .inl rfl, fun p hp => by cases hp⟩
  match i, hi with
  | 0, _ | 1, _ | 2, _ | 3, _ | 4, _ | 5, _ | 6, _ | 7, _ | 8, _ => rfl

set_option maxHeartbeats 3200000 in
theorem main_any (A0 A1 A2 : Option Addr) (c0 c1 c2 : Nat) (Ks : List Nat) (Lns : List Int) (Cs : List Bool) (w : World) (hK : ∀ x ∈ Ks, x < 256)
    (h0 : ArrAt w w.heap.size A0 Ks.length (fun i => .int .u8 ((Ks.getD i 0 : Nat) : Int))) (h1 : ArrAt w w.heap.size A1 Lns.length (fun i => .int .i64 (Lns.getD i 0))) (h2 : ArrAt w w.heap.size A2 Cs.length (fun i => .bool (Cs.getD i false))) :
    Calls Try.prog 3 #[.slice A0 Ks.length c0, .slice A1 Lns.length c1, .slice A2 Cs.length c2] w (MainPost w) := by
  have HB := bytes_any A0 A1 A2 Ks.length c0 Lns.length c1 Cs.length c2 w
  have HI : Hid ((∀ x ∈ Ks, x < 256) ∧ ArrAt w w.heap.size A0 Ks.length (fun i => .int .u8 ((Ks.getD i 0 : Nat) : Int)) ∧ ArrAt w w.heap.size A1 Lns.length (fun i => .int .i64 (Lns.getD i 0)) ∧ ArrAt w w.heap.size A2 Cs.length (fun i => .bool (Cs.getD i false))) := ⟨hK, h0, h1, h2⟩
  clear hK h0 h1 h2
  go_enter Try.func3, Try.ntmps3
  go_wp2_with fail
  refine HB.mono ?_
  rintro e wb ⟨b, rfl, rfl⟩
  cases b with
  | false =>
    go_wp2_with fail
    go_ret
    exact ⟨rfl, Below.refl _ _⟩
  | true =>
    by_cases g0 : (Ks.length : Int) > 64
    · go_wp2_with fail
      go_ret
      exact ⟨rfl, Below.refl _ _⟩
    by_cases g1 : (Lns.length : Int) > 4096
    · go_wp2_with fail
      go_ret
      exact ⟨rfl, Below.refl _ _⟩
    by_cases g2 : (Cs.length : Int) > 4096
    · go_wp2_with fail
      go_ret
      exact ⟨rfl, Below.refl _ _⟩
    have g3 : ¬ ((Ks.length : Int) + 8 * (Lns.length : Int) + (Cs.length : Int) > 1048576) := by omega
    go_wp2_with fail
    obtain ⟨hK, h0, h1, h2⟩ := HI.out
    refine (clone_7 A0 Ks.length c0 (fun i => ((Ks.getD i 0 : Nat) : Int)) wb h0 (by omega)).mono ?_
    rintro e w1 ⟨B0, rfl, hB0, hb1⟩
    have H1 : Hid (ArrAt w1 w1.heap.size B0 Ks.length (fun i => .int .u8 ((Ks.getD i 0 : Nat) : Int)) ∧ Below wb.heap.size wb w1) := ⟨hB0, hb1⟩
    clear h0 h1 h2 hB0 hb1 HB
    go_wp2_with fail
    obtain ⟨hK, h0, h1, h2⟩ := HI.out
    obtain ⟨hB0, hb1⟩ := H1.out
    refine (clone_8 A1 Lns.length c1 (fun i => Lns.getD i 0) w1 ((h1.below hb1).mono hb1.size) (by omega)).mono ?_
    rintro e w2 ⟨B1, rfl, hB1, hb2⟩
    have H2 : Hid (ArrAt w2 w2.heap.size B0 Ks.length (fun i => .int .u8 ((Ks.getD i 0 : Nat) : Int)) ∧ ArrAt w2 w2.heap.size B1 Lns.length (fun i => .int .i64 (Lns.getD i 0)) ∧ Below wb.heap.size wb w2) := ⟨(hB0.below hb2).mono hb2.size, hB1, hb1.trans (hb2.mono hb1.size)⟩
    clear h0 h1 h2 hB0 hb1 hB1 hb2 H1
    go_wp2_with fail
    obtain ⟨hK, h0, h1, h2⟩ := HI.out
    obtain ⟨hB0, hB1, hb2⟩ := H2.out
    refine (clone_9 A2 Cs.length c2 (fun i => Cs.getD i false) w2 ((h2.below hb2).mono hb2.size) (by omega)).mono ?_
    rintro e w3 ⟨B2, rfl, hB2, hb3⟩
    have H3 := bld_new w3 B0 B1 B2 Ks Lns Cs ((hB0.below hb3).mono hb3.size) ((hB1.below hb3).mono hb3.size) hB2
    have hbel : Below wb.heap.size wb w3 := hb2.trans (hb3.mono hb2.size)
    have H4 : Hid (Bld ⟨B0, B1, B2, Ks.length, Lns.length, Cs.length, Ks, Lns, Cs⟩ (w3.alloc (.cells #[.slice B0 Ks.length Ks.length, .slice B1 Lns.length Lns.length, .slice B2 Cs.length Cs.length, .int .i64 0, .int .i64 0, .int .i64 0, .slice none 0 0, .slice none 0 0, .slice none 0 0] 32)) w3.heap.size 0 0 0 [] [] [] [] (.slice none 0 0) (.slice none 0 0) (.slice none 0 0) ∧ Below wb.heap.size wb w3) := ⟨H3, hbel⟩
    clear h0 h1 h2 hB0 hB1 hB2 hb2 hb3 H2 H3 hbel
    go_wp2_with fail
    obtain ⟨hK, _, _, _⟩ := HI.out
    obtain ⟨H3, hbel⟩ := H4.out
    refine (stmt_any _ w3.heap.size (by show Ks.length ≤ 64; omega) hK Ks.length _ 0 0 0 0 0 [] [] [] [] _ _ _ rfl H3 ⟨rfl, fun i hi => by cases hi⟩ ⟨by simp, by simp, by simp, by simp, by simp⟩ (by simp) (by omega)).mono ?_
    rintro e w4 ⟨v, ts, k', l', c', os', ss', rows', wv', ov', sv', rfl, hB4, hP4, hL4, hS4, hr4, _, hb4⟩
    rw [List.nil_append] at hB4 hL4
    have hts : ts.length ≤ 256 := by have := hL4.ws; have := hL4.k; have : k' ≤ Ks.length := hL4.k; omega
    have hos : os'.length ≤ 64 := by have := hL4.os; have : k' ≤ Ks.length := hL4.k; omega
    have hbel4 : Below wb.heap.size wb w4 := (hbel.alloc hbel.size _).trans (hb4.mono hbel.size)
    have hsz4 := hB4.st.lt
    have HT := targets_any rows' _ v ts w4 hS4 (fun p hp => (hB4.lie p hp).2.2) (by omega)
    have H5 : Hid (∀ w5 gv B, Below w4.heap.size w4 w5 → Res B w5 gv ts → Below wb.heap.size wb w5 ∧ ∃ gA gc wA oA sA wc oc sc, gv = .slice gA ts.length gc ∧ Fin w5 w3.heap.size gA wA oA sA wc oc sc os'.length ts) := fun w5 gv B h hr =>
      ⟨hbel4.trans (h.mono hbel4.size), (hB4.kept (grown_none h rfl) (fun b hb => by cases hb)).fin hP4 hr⟩
    have hf4 := stmt_form hS4
    clear H3 hbel H4 hB4 hP4 hL4 hS4 hr4 hb4 hbel4
    rcases hf4 with rfl | ⟨ty, x, rfl⟩
    all_goals
      go_wp2_with fail
      refine HT.mono ?_
      rintro e w5 ⟨gv, rfl, hgv, hb5⟩
      obtain ⟨hbel5, gA, gc, wA, oA, sA, wc, oc, sc, rfl, hF⟩ := H5.out w5 gv _ hb5 hgv
      generalize w3.heap.size = s at hF ⊢
      have c6 := hF.c6
      have HF : Hid (Fin w5 s gA wA oA sA wc oc sc os'.length ts) := hF
      clear hF hgv H5 HT hb5
      generalize os'.length = n at hos HF ⊢
      go_wp2_with fail
      clear c6
      go_loopg [10] ts.length (fun m i wr => ∃ k : Nat, k ≤ ts.length ∧ m = ts.length - k ∧ i = .int .i64 k ∧ Below wb.heap.size wb wr ∧ Hid (Fin wr s gA wA oA sA wc oc sc n ts))
      case atStart => exact ⟨0, Nat.zero_le _, rfl, rfl, hbel5, HF⟩
      case round =>
        clear HF hbel5
        obtain ⟨k, hk, rfl, rfl, hbel, HF⟩ := hrel
        by_cases hlt : k < ts.length
        · obtain ⟨gb, go, ega, hgb, hgc⟩ := HF.out.got (by omega)
          obtain ⟨wb', wo, ewa, hwb, hwc⟩ := HF.out.want (by omega)
          have e1 := hgc k hlt
          have e2 := hwc k hlt
          have c6 := HF.out.c6
          subst ega ewa
          generalize ts.getD k 0 = z at e1 e2
          clear hgc hwc
          go_wp2_with fail
          go_quiet (fail)
          go_wp2_with fail
          go_roundg (ts.length - (k + 1))
          case measure => omega
          case rel => exact ⟨k + 1, by omega, rfl, by go_num, ⟨hbel.os, hbel.tape, hbel.output, hbel.size, hbel.block⟩, HF.out.drewN _⟩
        · have e : k = ts.length := by omega
          clear e
          go_wp2_with fail
          go_loopg [11] n (fun m i wr => ∃ k : Nat, k ≤ n ∧ m = n - k ∧ i = .int .i64 k ∧ Below wb.heap.size wb wr ∧ Hid (Fin wr s gA wA oA sA wc oc sc n ts))
          case atStart => exact ⟨0, Nat.zero_le _, rfl, rfl, hbel, HF⟩
          case round =>
            clear HF hbel
            obtain ⟨k, hk, rfl, rfl, hbel, HF⟩ := hrel
            have c7 := HF.out.c7
            by_cases hlt : k < n
            · obtain ⟨b, b', g, g', L, eo, es, e1, e2, hr1, hr2, hL⟩ := HF.out.pair k hlt
              have c8 := HF.out.c8
              have e1' : wr.cell? ⟨b, k, none⟩ = some (.slice (some ⟨g, 0, none⟩) L.length L.length) := e1
              have e2' : wr.cell? ⟨b', k, none⟩ = some (.slice (some ⟨g', 0, none⟩) L.length L.length) := e2
              have HR : Hid (wr.rowIs g 3 L.length (rowF L) ∧ wr.rowIs g' 3 L.length (rowF L)) := ⟨hr1, hr2⟩
              subst eo es
              clear e1 e2 hr1 hr2
              go_wp2_with fail
              clear c7 c8 e1' e2'
              go_loopg [14] L.length (fun m i wr => ∃ j : Nat, j ≤ L.length ∧ m = L.length - j ∧ i = .int .i64 j ∧ Below wb.heap.size wb wr ∧ Hid (Fin wr s gA wA (some ⟨b, 0, none⟩) (some ⟨b', 0, none⟩) wc oc sc n ts) ∧ Hid (wr.rowIs g 3 L.length (rowF L) ∧ wr.rowIs g' 3 L.length (rowF L)))
              case atStart => exact ⟨0, Nat.zero_le _, rfl, rfl, hbel, HF, HR⟩
              case round =>
                clear HF hbel HR
                obtain ⟨j, hj, rfl, rfl, hbel, HF, HR⟩ := hrel
                by_cases hjl : j < L.length
                · have e1 : wr.cell? ⟨g, j, none⟩ = some (.int .i64 (L.getD j 0)) := HR.out.1.cell hjl
                  have e2 : wr.cell? ⟨g', j, none⟩ = some (.int .i64 (L.getD j 0)) := HR.out.2.cell hjl
                  generalize L.getD j 0 = z at e1 e2
                  go_wp2_with fail
                  go_quiet (fail)
                  go_wp2_with fail
                  go_roundg (L.length - (j + 1))
                  case measure => omega
                  case rel => exact ⟨j + 1, by omega, rfl, by go_num, ⟨hbel.os, hbel.tape, hbel.output, hbel.size, hbel.block⟩, HF.out.drewN _, ⟨HR.out.1.of_block rfl, HR.out.2.of_block rfl⟩⟩
                · go_wp2_with fail
                  go_roundg (n - (k + 1))
                  case measure => omega
                  case rel => exact ⟨k + 1, by omega, rfl, by go_num, hbel, HF⟩
            · go_wp2_with fail
              go_ret
              exact ⟨rfl, hbel⟩
end Go.Proofs.Qxb6002364a
