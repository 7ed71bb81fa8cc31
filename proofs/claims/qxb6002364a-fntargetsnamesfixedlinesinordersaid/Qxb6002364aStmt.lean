/-
  The seat's own text: the walk of stmt.
-/
import Derived.Test.Qxb6002364aTarget
import Derived.Test.Qxb6002364aTargets
namespace Go.Proofs.Qxb6002364a
open Go.RowKit Go.Deep

/-- How far the counters can have come. -/
structure Lim (E : Env) (k l c : Nat) (ws : List Int) (os : List Value) : Prop where
  l : l ≤ 4 * k
  c : c ≤ k
  ws : ws.length ≤ 4 * k
  os : os.length ≤ k
  k : k ≤ E.Ks.length

def SPost (E : Env) (s d k : Nat) (ws : List Int) (rows : List (Nat × List Int)) (w : World) (e : Ending) (w' : World) : Prop :=
  ∃ v ts k' l' c' os' ss' rows' wv' ov' sv', e = .returned v ∧ Bld E w' s k' l' c' (ws ++ ts) os' ss' rows' wv' ov' sv' ∧ Pairs os' ss' rows' ∧ Lim E k' l' c' (ws ++ ts) os' ∧ IsStmt rows' (9 - d) v ts ∧ (∀ p ∈ rows, p ∈ rows') ∧ k ≤ k' ∧ Below s w w'

theorem leaf_stmt {rows : List (Nat × List Int)} {v : Value} {ts : List Int} (n : Nat) (h : Leaf rows v ts) : IsStmt rows n v ts := by
  cases n with
  | zero => exact h
  | succ n => exact .inl h
theorem leaf_more {rows rows' : List (Nat × List Int)} {v : Value} {ts : List Int} (hr : ∀ p ∈ rows, p ∈ rows') (h : Leaf rows v ts) : Leaf rows' v ts := by
  rcases h with h | h | h | ⟨g, L, t, y, h1, h2, h3⟩
  · exact .inl h
  · exact .inr (.inl h)
  · exact .inr (.inr (.inl h))
  · exact .inr (.inr (.inr ⟨g, L, t, y, h1, hr _ h2, h3⟩))
theorem stmt_more {rows rows' : List (Nat × List Int)} (hr : ∀ p ∈ rows, p ∈ rows') (n : Nat) : ∀ {v : Value} {ts : List Int}, IsStmt rows n v ts → IsStmt rows' n v ts := by
  induction n with
  | zero => exact fun h => leaf_more hr h
  | succ n ih =>
    intro v ts h
    rcases h with h | ⟨a, b, ta, tb, h1, h2, h3, h4⟩
    · exact .inl (leaf_more hr h)
    · exact .inr ⟨a, b, ta, tb, h1, ih h2, ih h3, h4⟩

/-- A leaf that names nothing and reads nothing. -/
theorem SPost.quiet {E : Env} {s d k k' l c : Nat} {ws : List Int} {os ss : List Value} {rows : List (Nat × List Int)} {wv ov sv : Value} {w w' : World} (v : Value) (hB : Bld E w' s k' l c ws os ss rows wv ov sv) (hP : Pairs os ss rows) (hL : Lim E k' l c ws os) (hv : NoTargets v) (hk : k ≤ k') (hb : Below s w w') :
    SPost E s d k ws rows w (.returned v) w' :=
  ⟨v, [], k', l, c, os, ss, rows, wv, ov, sv, rfl, by rw [List.append_nil]; exact hB, hP, by rw [List.append_nil]; exact hL, leaf_stmt _ (.inl ⟨hv, rfl⟩), fun _ h => h, hk, hb⟩

set_option maxHeartbeats 800000 in
theorem stmt_over (E : Env) (w : World) (s k l c d : Nat) (ws : List Int) (os ss : List Value) (rows : List (Nat × List Int)) (wv ov sv : Value) (hB : Bld E w s k l c ws os ss rows wv ov sv) (hP : Pairs os ss rows) (hL : Lim E k l c ws os) (hk : ¬ k < E.Ks.length) :
    Calls Try.prog 10 #[.pointer (some ⟨s, 0, none⟩), .int .i64 d] w (SPost E s d k ws rows w) := by
  have c3 : w.cell? ⟨s, 3, none⟩ = some (.int .i64 k) := hB.st.cell (i := 3) (by omega)
  have c0 : w.cell? ⟨s, 0, none⟩ = some (.slice E.kA E.Ks.length E.kc) := hB.st.cell (i := 0) (by omega)
  have hk1 : (E.Ks.length : Int) ≤ (k : Int) := by omega
  have H : Hid (∀ q, SPost E s d k ws rows w (.returned (.iface 51 (.agg #[]))) (w.drewN q)) := fun q => SPost.quiet _ (hB.drewN q) hP hL (.inr ⟨_, .inl rfl⟩) (Nat.le_refl _) ⟨rfl, rfl, rfl, Nat.le_refl _, fun _ _ => rfl⟩
  clear hB hP hL
  go_enter Try.func10, Try.ntmps10
  go_wp2_with fail
  go_quiet (fail)
  go_wp2_with fail
  go_ret
  exact H.out _

/-- What stmt's head leaves. -/
theorem head_bld {E : Env} {w : World} {s k l c : Nat} {ws : List Int} {os ss : List Value} {rows : List (Nat × List Int)} {wv ov sv : Value} (hB : Bld E w s k l c ws os ss rows wv ov sv) (q : Nat) :
    Bld E ((w.drewN q).setCell ⟨s, 3, none⟩ (.int .i64 ((k : Int) + 1))) s (k + 1) l c ws os ss rows wv ov sv ∧ Below s w ((w.drewN q).setCell ⟨s, 3, none⟩ (.int .i64 ((k : Int) + 1))) :=
  ⟨hB.only (Only.set w q s 3 _) (by simpa using b_set3 (hB.st.of_block (w' := w.drewN q) rfl) ((k : Int) + 1)), (Only.set w q s 3 _).below⟩

set_option maxHeartbeats 800000 in
theorem stmt_4 (E : Env) (w : World) (s k l c d op : Nat) (ws : List Int) (os ss : List Value) (rows : List (Nat × List Int)) (wv ov sv : Value) (hB : Bld E w s k l c ws os ss rows wv ov sv) (hP : Pairs os ss rows) (hL : Lim E k l c ws os) (hk : k < E.Ks.length) (hkl : E.Ks.length ≤ 64) (hop : E.Ks.getD k 0 = op) (ho : op < 256) (hn : op % 8 = 4) :
    Calls Try.prog 10 #[.pointer (some ⟨s, 0, none⟩), .int .i64 d] w (SPost E s d k ws rows w) := by
  have c3 : w.cell? ⟨s, 3, none⟩ = some (.int .i64 k) := hB.st.cell (i := 3) (by omega)
  have f3 := hB.st.frozen 3
  obtain ⟨kb, ko, hkA, _, hkc⟩ := hB.ka (by omega)
  have hcell : w.cell? ⟨kb, ko + k, none⟩ = some (.int .u8 ((op : Nat) : Int)) := by rw [← hop]; exact hkc k hk
  have c0 : w.cell? ⟨s, 0, none⟩ = some (.slice (some ⟨kb, ko, none⟩) E.Ks.length E.kc) := by rw [← hkA]; exact hB.st.cell (i := 0) (by omega)
  have hk1 : (k : Int) < (E.Ks.length : Int) := by omega
  have hk0 : (0 : Int) ≤ (k : Int) := by omega
  have HH : Hid (∀ q, Bld E ((w.drewN q).setCell ⟨s, 3, none⟩ (.int .i64 ((k : Int) + 1))) s (k + 1) l c ws os ss rows wv ov sv ∧ Below s w ((w.drewN q).setCell ⟨s, 3, none⟩ (.int .i64 ((k : Int) + 1)))) := fun q => head_bld hB q
  have HL : Hid (Lim E (k + 1) l c ws os) := ⟨by have := hL.l; omega, by have := hL.c; omega, by have := hL.ws; omega, by have := hL.os; omega, by omega⟩
  have HP : Hid (Pairs os ss rows) := hP
  have g0 : (((op : Nat) : Int) % 8 == 0) = false := beq_eq_false_iff_ne.2 (by omega)
  have g1 : (((op : Nat) : Int) % 8 == 1) = false := beq_eq_false_iff_ne.2 (by omega)
  have g2 : (((op : Nat) : Int) % 8 == 2) = false := beq_eq_false_iff_ne.2 (by omega)
  have g3 : (((op : Nat) : Int) % 8 == 3) = false := beq_eq_false_iff_ne.2 (by omega)
  have g4 : (((op : Nat) : Int) % 8 == 4) = true := beq_iff_eq.2 (by omega)
  clear hB hL hP hkA hkc hop hn
  go_enter Try.func10, Try.ntmps10
  go_wp2_with fail
  go_quiet (fail)
  go_wp2_with fail
  go_quiet (fail)
  go_wp2_with fail
  go_ret
  exact SPost.quiet _ (HH.out _).1 HP.out HL.out (.inr ⟨_, .inr (.inr (.inl rfl))⟩) (by omega) (HH.out _).2

set_option maxHeartbeats 800000 in
theorem stmt_5 (E : Env) (w : World) (s k l c d op : Nat) (ws : List Int) (os ss : List Value) (rows : List (Nat × List Int)) (wv ov sv : Value) (hB : Bld E w s k l c ws os ss rows wv ov sv) (hP : Pairs os ss rows) (hL : Lim E k l c ws os) (hk : k < E.Ks.length) (hkl : E.Ks.length ≤ 64) (hop : E.Ks.getD k 0 = op) (ho : op < 256) (hn : op % 8 = 5) :
    Calls Try.prog 10 #[.pointer (some ⟨s, 0, none⟩), .int .i64 d] w (SPost E s d k ws rows w) := by
  have c3 : w.cell? ⟨s, 3, none⟩ = some (.int .i64 k) := hB.st.cell (i := 3) (by omega)
  have f3 := hB.st.frozen 3
  obtain ⟨kb, ko, hkA, _, hkc⟩ := hB.ka (by omega)
  have hcell : w.cell? ⟨kb, ko + k, none⟩ = some (.int .u8 ((op : Nat) : Int)) := by rw [← hop]; exact hkc k hk
  have c0 : w.cell? ⟨s, 0, none⟩ = some (.slice (some ⟨kb, ko, none⟩) E.Ks.length E.kc) := by rw [← hkA]; exact hB.st.cell (i := 0) (by omega)
  have hk1 : (k : Int) < (E.Ks.length : Int) := by omega
  have hk0 : (0 : Int) ≤ (k : Int) := by omega
  have HH : Hid (∀ q, Bld E ((w.drewN q).setCell ⟨s, 3, none⟩ (.int .i64 ((k : Int) + 1))) s (k + 1) l c ws os ss rows wv ov sv ∧ Below s w ((w.drewN q).setCell ⟨s, 3, none⟩ (.int .i64 ((k : Int) + 1)))) := fun q => head_bld hB q
  have HL : Hid (Lim E (k + 1) l c ws os) := ⟨by have := hL.l; omega, by have := hL.c; omega, by have := hL.ws; omega, by have := hL.os; omega, by omega⟩
  have HP : Hid (Pairs os ss rows) := hP
  have g0 : (((op : Nat) : Int) % 8 == 0) = false := beq_eq_false_iff_ne.2 (by omega)
  have g1 : (((op : Nat) : Int) % 8 == 1) = false := beq_eq_false_iff_ne.2 (by omega)
  have g2 : (((op : Nat) : Int) % 8 == 2) = false := beq_eq_false_iff_ne.2 (by omega)
  have g3 : (((op : Nat) : Int) % 8 == 3) = false := beq_eq_false_iff_ne.2 (by omega)
  have g4 : (((op : Nat) : Int) % 8 == 4) = false := beq_eq_false_iff_ne.2 (by omega)
  have g5 : (((op : Nat) : Int) % 8 == 5) = true := beq_iff_eq.2 (by omega)
  clear hB hL hP hkA hkc hop hn
  go_enter Try.func10, Try.ntmps10
  go_wp2_with fail
  go_quiet (fail)
  go_wp2_with fail
  go_quiet (fail)
  go_wp2_with fail
  go_ret
  exact SPost.quiet _ (HH.out _).1 HP.out HL.out (.inr ⟨_, .inr (.inr (.inr (.inl rfl)))⟩) (by omega) (HH.out _).2

set_option maxHeartbeats 800000 in
theorem stmt_6 (E : Env) (w : World) (s k l c d op : Nat) (ws : List Int) (os ss : List Value) (rows : List (Nat × List Int)) (wv ov sv : Value) (hB : Bld E w s k l c ws os ss rows wv ov sv) (hP : Pairs os ss rows) (hL : Lim E k l c ws os) (hk : k < E.Ks.length) (hkl : E.Ks.length ≤ 64) (hop : E.Ks.getD k 0 = op) (ho : op < 256) (hn : op % 8 = 6) :
    Calls Try.prog 10 #[.pointer (some ⟨s, 0, none⟩), .int .i64 d] w (SPost E s d k ws rows w) := by
  have c3 : w.cell? ⟨s, 3, none⟩ = some (.int .i64 k) := hB.st.cell (i := 3) (by omega)
  have f3 := hB.st.frozen 3
  obtain ⟨kb, ko, hkA, _, hkc⟩ := hB.ka (by omega)
  have hcell : w.cell? ⟨kb, ko + k, none⟩ = some (.int .u8 ((op : Nat) : Int)) := by rw [← hop]; exact hkc k hk
  have c0 : w.cell? ⟨s, 0, none⟩ = some (.slice (some ⟨kb, ko, none⟩) E.Ks.length E.kc) := by rw [← hkA]; exact hB.st.cell (i := 0) (by omega)
  have hk1 : (k : Int) < (E.Ks.length : Int) := by omega
  have hk0 : (0 : Int) ≤ (k : Int) := by omega
  have HH : Hid (∀ q, Bld E ((w.drewN q).setCell ⟨s, 3, none⟩ (.int .i64 ((k : Int) + 1))) s (k + 1) l c ws os ss rows wv ov sv ∧ Below s w ((w.drewN q).setCell ⟨s, 3, none⟩ (.int .i64 ((k : Int) + 1)))) := fun q => head_bld hB q
  have HL : Hid (Lim E (k + 1) l c ws os) := ⟨by have := hL.l; omega, by have := hL.c; omega, by have := hL.ws; omega, by have := hL.os; omega, by omega⟩
  have HP : Hid (Pairs os ss rows) := hP
  have g0 : (((op : Nat) : Int) % 8 == 0) = false := beq_eq_false_iff_ne.2 (by omega)
  have g1 : (((op : Nat) : Int) % 8 == 1) = false := beq_eq_false_iff_ne.2 (by omega)
  have g2 : (((op : Nat) : Int) % 8 == 2) = false := beq_eq_false_iff_ne.2 (by omega)
  have g3 : (((op : Nat) : Int) % 8 == 3) = false := beq_eq_false_iff_ne.2 (by omega)
  have g4 : (((op : Nat) : Int) % 8 == 4) = false := beq_eq_false_iff_ne.2 (by omega)
  have g5 : (((op : Nat) : Int) % 8 == 5) = false := beq_eq_false_iff_ne.2 (by omega)
  have g6 : (((op : Nat) : Int) % 8 == 6) = true := beq_iff_eq.2 (by omega)
  clear hB hL hP hkA hkc hop hn
  go_enter Try.func10, Try.ntmps10
  go_wp2_with fail
  go_quiet (fail)
  go_wp2_with fail
  go_quiet (fail)
  go_wp2_with fail
  go_ret
  exact SPost.quiet _ (HH.out _).1 HP.out HL.out (.inr ⟨_, .inr (.inr (.inr (.inr rfl)))⟩) (by omega) (HH.out _).2

set_option maxHeartbeats 800000 in
theorem stmt_7 (E : Env) (w : World) (s k l c d op : Nat) (ws : List Int) (os ss : List Value) (rows : List (Nat × List Int)) (wv ov sv : Value) (hB : Bld E w s k l c ws os ss rows wv ov sv) (hP : Pairs os ss rows) (hL : Lim E k l c ws os) (hk : k < E.Ks.length) (hkl : E.Ks.length ≤ 64) (hop : E.Ks.getD k 0 = op) (ho : op < 256) (hn : op % 8 = 7) :
    Calls Try.prog 10 #[.pointer (some ⟨s, 0, none⟩), .int .i64 d] w (SPost E s d k ws rows w) := by
  have c3 : w.cell? ⟨s, 3, none⟩ = some (.int .i64 k) := hB.st.cell (i := 3) (by omega)
  have f3 := hB.st.frozen 3
  obtain ⟨kb, ko, hkA, _, hkc⟩ := hB.ka (by omega)
  have hcell : w.cell? ⟨kb, ko + k, none⟩ = some (.int .u8 ((op : Nat) : Int)) := by rw [← hop]; exact hkc k hk
  have c0 : w.cell? ⟨s, 0, none⟩ = some (.slice (some ⟨kb, ko, none⟩) E.Ks.length E.kc) := by rw [← hkA]; exact hB.st.cell (i := 0) (by omega)
  have hk1 : (k : Int) < (E.Ks.length : Int) := by omega
  have hk0 : (0 : Int) ≤ (k : Int) := by omega
  have HH : Hid (∀ q, Bld E ((w.drewN q).setCell ⟨s, 3, none⟩ (.int .i64 ((k : Int) + 1))) s (k + 1) l c ws os ss rows wv ov sv ∧ Below s w ((w.drewN q).setCell ⟨s, 3, none⟩ (.int .i64 ((k : Int) + 1)))) := fun q => head_bld hB q
  have HL : Hid (Lim E (k + 1) l c ws os) := ⟨by have := hL.l; omega, by have := hL.c; omega, by have := hL.ws; omega, by have := hL.os; omega, by omega⟩
  have HP : Hid (Pairs os ss rows) := hP
  have g0 : (((op : Nat) : Int) % 8 == 0) = false := beq_eq_false_iff_ne.2 (by omega)
  have g1 : (((op : Nat) : Int) % 8 == 1) = false := beq_eq_false_iff_ne.2 (by omega)
  have g2 : (((op : Nat) : Int) % 8 == 2) = false := beq_eq_false_iff_ne.2 (by omega)
  have g3 : (((op : Nat) : Int) % 8 == 3) = false := beq_eq_false_iff_ne.2 (by omega)
  have g4 : (((op : Nat) : Int) % 8 == 4) = false := beq_eq_false_iff_ne.2 (by omega)
  have g5 : (((op : Nat) : Int) % 8 == 5) = false := beq_eq_false_iff_ne.2 (by omega)
  have g6 : (((op : Nat) : Int) % 8 == 6) = false := beq_eq_false_iff_ne.2 (by omega)
  clear hB hL hP hkA hkc hop hn
  go_enter Try.func10, Try.ntmps10
  go_wp2_with fail
  go_quiet (fail)
  go_wp2_with fail
  go_quiet (fail)
  go_wp2_with fail
  go_ret
  exact SPost.quiet _ (HH.out _).1 HP.out HL.out (.inl rfl) (by omega) (HH.out _).2

set_option maxHeartbeats 800000 in
theorem stmt_2_deep (E : Env) (w : World) (s k l c d op : Nat) (ws : List Int) (os ss : List Value) (rows : List (Nat × List Int)) (wv ov sv : Value) (hB : Bld E w s k l c ws os ss rows wv ov sv) (hP : Pairs os ss rows) (hL : Lim E k l c ws os) (hk : k < E.Ks.length) (hkl : E.Ks.length ≤ 64) (hop : E.Ks.getD k 0 = op) (ho : op < 256) (hn : op % 8 = 2) (hd : 8 ≤ d) :
    Calls Try.prog 10 #[.pointer (some ⟨s, 0, none⟩), .int .i64 d] w (SPost E s d k ws rows w) := by
  have c3 : w.cell? ⟨s, 3, none⟩ = some (.int .i64 k) := hB.st.cell (i := 3) (by omega)
  have f3 := hB.st.frozen 3
  obtain ⟨kb, ko, hkA, _, hkc⟩ := hB.ka (by omega)
  have hcell : w.cell? ⟨kb, ko + k, none⟩ = some (.int .u8 ((op : Nat) : Int)) := by rw [← hop]; exact hkc k hk
  have c0 : w.cell? ⟨s, 0, none⟩ = some (.slice (some ⟨kb, ko, none⟩) E.Ks.length E.kc) := by rw [← hkA]; exact hB.st.cell (i := 0) (by omega)
  have hk1 : (k : Int) < (E.Ks.length : Int) := by omega
  have hk0 : (0 : Int) ≤ (k : Int) := by omega
  have HH : Hid (∀ q, Bld E ((w.drewN q).setCell ⟨s, 3, none⟩ (.int .i64 ((k : Int) + 1))) s (k + 1) l c ws os ss rows wv ov sv ∧ Below s w ((w.drewN q).setCell ⟨s, 3, none⟩ (.int .i64 ((k : Int) + 1)))) := fun q => head_bld hB q
  have HL : Hid (Lim E (k + 1) l c ws os) := ⟨by have := hL.l; omega, by have := hL.c; omega, by have := hL.ws; omega, by have := hL.os; omega, by omega⟩
  have HP : Hid (Pairs os ss rows) := hP
  have g0 : (((op : Nat) : Int) % 8 == 0) = false := beq_eq_false_iff_ne.2 (by omega)
  have g1 : (((op : Nat) : Int) % 8 == 1) = false := beq_eq_false_iff_ne.2 (by omega)
  have g2 : (((op : Nat) : Int) % 8 == 2) = true := beq_iff_eq.2 (by omega)
  have hd' : (8 : Int) ≤ (d : Int) := by omega
  clear hB hL hP hkA hkc hop hn
  go_enter Try.func10, Try.ntmps10
  go_wp2_with fail
  go_quiet (fail)
  go_wp2_with fail
  go_quiet (fail)
  go_wp2_with fail
  go_ret
  exact SPost.quiet _ (HH.out _).1 HP.out HL.out (.inr ⟨_, .inr (.inl rfl)⟩) (by omega) (HH.out _).2

set_option maxHeartbeats 800000 in
theorem stmt_0 (E : Env) (w : World) (s k l c d op : Nat) (ws : List Int) (os ss : List Value) (rows : List (Nat × List Int)) (wv ov sv : Value) (hB : Bld E w s k l c ws os ss rows wv ov sv) (hP : Pairs os ss rows) (hL : Lim E k l c ws os) (hk : k < E.Ks.length) (hkl : E.Ks.length ≤ 64) (hop : E.Ks.getD k 0 = op) (ho : op < 256) (hn : op % 8 = 0) :
    Calls Try.prog 10 #[.pointer (some ⟨s, 0, none⟩), .int .i64 d] w (SPost E s d k ws rows w) := by
  have c3 : w.cell? ⟨s, 3, none⟩ = some (.int .i64 k) := hB.st.cell (i := 3) (by omega)
  have f3 := hB.st.frozen 3
  obtain ⟨kb, ko, hkA, _, hkc⟩ := hB.ka (by omega)
  have hcell : w.cell? ⟨kb, ko + k, none⟩ = some (.int .u8 ((op : Nat) : Int)) := by rw [← hop]; exact hkc k hk
  have c0 : w.cell? ⟨s, 0, none⟩ = some (.slice (some ⟨kb, ko, none⟩) E.Ks.length E.kc) := by rw [← hkA]; exact hB.st.cell (i := 0) (by omega)
  have hk1 : (k : Int) < (E.Ks.length : Int) := by omega
  have hk0 : (0 : Int) ≤ (k : Int) := by omega
  have HH : Hid (∀ q, Bld E ((w.drewN q).setCell ⟨s, 3, none⟩ (.int .i64 ((k : Int) + 1))) s (k + 1) l c ws os ss rows wv ov sv ∧ Below s w ((w.drewN q).setCell ⟨s, 3, none⟩ (.int .i64 ((k : Int) + 1)))) := fun q => head_bld hB q
  have HL : Hid (Lim E (k + 1) l c ws os) := ⟨by have := hL.l; omega, by have := hL.c; omega, by have := hL.ws; omega, by have := hL.os; omega, by omega⟩
  have HP : Hid (Pairs os ss rows) := hP
  have g0 : (((op : Nat) : Int) % 8 == 0) = true := beq_iff_eq.2 (by omega)
  have hL0 : l ≤ 4 * k ∧ c ≤ k ∧ ws.length ≤ 4 * k := ⟨hL.l, hL.c, hL.ws⟩
  clear hB hL hP hkA hkc hop hn
  go_enter Try.func10, Try.ntmps10
  go_wp2_with fail
  go_quiet (fail)
  go_wp2_with fail
  go_quiet (fail)
  go_wp2_with fail
  have hl4 : l ≤ 4 * k := hL0.1
  have hc4 : c ≤ k := hL0.2.1
  have hw4 : ws.length ≤ 4 * k := hL0.2.2
  generalize hW : (w.drewN _).setCell ⟨s, 3, none⟩ (.int .i64 ((k : Int) + 1)) = wx
  obtain ⟨hBx, hbx⟩ : Bld E wx s (k + 1) l c ws os ss rows wv ov sv ∧ Below s w wx := by rw [← hW]; exact HH.out _
  clear hW HH c3 f3 hcell c0
  cases hco : compAt E.Cs c with
  | true =>
    refine (target_yes E wx s (k + 1) l c ws os ss rows wv ov sv hBx (by omega) (by omega) hco).mono ?_
    rintro e w2 ⟨rfl, hB2, hb2⟩
    have HF : Hid (∀ v, Leaf rows v [] → SPost E s d k ws rows w (.returned v) w2) := fun v hv =>
      ⟨v, [], k + 1, l + 1, c + 1, os, ss, rows, wv, ov, sv, rfl, by rw [List.append_nil]; exact hB2, HP.out, by rw [List.append_nil]; exact ⟨by omega, by omega, HL.out.ws, HL.out.os, HL.out.k⟩, leaf_stmt _ hv, fun _ h => h, by omega, hbx.trans hb2⟩
    clear hB2 hBx
    go_wp2_with fail
    go_ret
    exact HF.out _ (.inr (.inr (.inl ⟨_, .inl rfl, rfl⟩)))
  | false =>
    refine (target_no E wx s (k + 1) l c ws os ss rows wv ov sv hBx (by omega) (by omega) (by omega) hco).mono ?_
    rintro e w2 ⟨rfl, ⟨wv2, hB2⟩, hb2⟩
    have HF : Hid (∀ v, Leaf rows v [lineAt E.Lns l] → SPost E s d k ws rows w (.returned v) w2) := fun v hv =>
      ⟨v, [lineAt E.Lns l], k + 1, l + 1, c + 1, os, ss, rows, wv2, ov, sv, rfl, hB2, HP.out, ⟨by omega, by omega, by simp; omega, HL.out.os, HL.out.k⟩, leaf_stmt _ hv, fun _ h => h, by omega, hbx.trans hb2⟩
    clear hB2 hBx
    go_wp2_with fail
    go_ret
    exact HF.out _ (.inr (.inl ⟨_, .inl rfl, rfl⟩))

set_option maxHeartbeats 800000 in
theorem stmt_1 (E : Env) (w : World) (s k l c d op : Nat) (ws : List Int) (os ss : List Value) (rows : List (Nat × List Int)) (wv ov sv : Value) (hB : Bld E w s k l c ws os ss rows wv ov sv) (hP : Pairs os ss rows) (hL : Lim E k l c ws os) (hk : k < E.Ks.length) (hkl : E.Ks.length ≤ 64) (hop : E.Ks.getD k 0 = op) (ho : op < 256) (hn : op % 8 = 1) :
    Calls Try.prog 10 #[.pointer (some ⟨s, 0, none⟩), .int .i64 d] w (SPost E s d k ws rows w) := by
  have c3 : w.cell? ⟨s, 3, none⟩ = some (.int .i64 k) := hB.st.cell (i := 3) (by omega)
  have f3 := hB.st.frozen 3
  obtain ⟨kb, ko, hkA, _, hkc⟩ := hB.ka (by omega)
  have hcell : w.cell? ⟨kb, ko + k, none⟩ = some (.int .u8 ((op : Nat) : Int)) := by rw [← hop]; exact hkc k hk
  have c0 : w.cell? ⟨s, 0, none⟩ = some (.slice (some ⟨kb, ko, none⟩) E.Ks.length E.kc) := by rw [← hkA]; exact hB.st.cell (i := 0) (by omega)
  have hk1 : (k : Int) < (E.Ks.length : Int) := by omega
  have hk0 : (0 : Int) ≤ (k : Int) := by omega
  have HH : Hid (∀ q, Bld E ((w.drewN q).setCell ⟨s, 3, none⟩ (.int .i64 ((k : Int) + 1))) s (k + 1) l c ws os ss rows wv ov sv ∧ Below s w ((w.drewN q).setCell ⟨s, 3, none⟩ (.int .i64 ((k : Int) + 1)))) := fun q => head_bld hB q
  have HL : Hid (Lim E (k + 1) l c ws os) := ⟨by have := hL.l; omega, by have := hL.c; omega, by have := hL.ws; omega, by have := hL.os; omega, by omega⟩
  have HP : Hid (Pairs os ss rows) := hP
  have g0 : (((op : Nat) : Int) % 8 == 0) = false := beq_eq_false_iff_ne.2 (by omega)
  have g1 : (((op : Nat) : Int) % 8 == 1) = true := beq_iff_eq.2 (by omega)
  have hL0 : l ≤ 4 * k ∧ c ≤ k ∧ ws.length ≤ 4 * k := ⟨hL.l, hL.c, hL.ws⟩
  clear hB hL hP hkA hkc hop hn
  go_enter Try.func10, Try.ntmps10
  go_wp2_with fail
  go_quiet (fail)
  go_wp2_with fail
  go_quiet (fail)
  go_wp2_with fail
  have hl4 : l ≤ 4 * k := hL0.1
  have hc4 : c ≤ k := hL0.2.1
  have hw4 : ws.length ≤ 4 * k := hL0.2.2
  generalize hW : (w.drewN _).setCell ⟨s, 3, none⟩ (.int .i64 ((k : Int) + 1)) = wx
  obtain ⟨hBx, hbx⟩ : Bld E wx s (k + 1) l c ws os ss rows wv ov sv ∧ Below s w wx := by rw [← hW]; exact HH.out _
  clear hW HH c3 f3 hcell c0
  cases hco : compAt E.Cs c with
  | true =>
    refine (target_yes E wx s (k + 1) l c ws os ss rows wv ov sv hBx (by omega) (by omega) hco).mono ?_
    rintro e w2 ⟨rfl, hB2, hb2⟩
    have HF : Hid (∀ v, Leaf rows v [] → SPost E s d k ws rows w (.returned v) w2) := fun v hv =>
      ⟨v, [], k + 1, l + 1, c + 1, os, ss, rows, wv, ov, sv, rfl, by rw [List.append_nil]; exact hB2, HP.out, by rw [List.append_nil]; exact ⟨by omega, by omega, HL.out.ws, HL.out.os, HL.out.k⟩, leaf_stmt _ hv, fun _ h => h, by omega, hbx.trans hb2⟩
    clear hB2 hBx
    go_wp2_with fail
    go_ret
    exact HF.out _ (.inr (.inr (.inl ⟨_, .inr rfl, rfl⟩)))
  | false =>
    refine (target_no E wx s (k + 1) l c ws os ss rows wv ov sv hBx (by omega) (by omega) (by omega) hco).mono ?_
    rintro e w2 ⟨rfl, ⟨wv2, hB2⟩, hb2⟩
    have HF : Hid (∀ v, Leaf rows v [lineAt E.Lns l] → SPost E s d k ws rows w (.returned v) w2) := fun v hv =>
      ⟨v, [lineAt E.Lns l], k + 1, l + 1, c + 1, os, ss, rows, wv2, ov, sv, rfl, hB2, HP.out, ⟨by omega, by omega, by simp; omega, HL.out.os, HL.out.k⟩, leaf_stmt _ hv, fun _ h => h, by omega, hbx.trans hb2⟩
    clear hB2 hBx
    go_wp2_with fail
    go_ret
    exact HF.out _ (.inr (.inl ⟨_, .inr rfl, rfl⟩))

end Go.Proofs.Qxb6002364a
