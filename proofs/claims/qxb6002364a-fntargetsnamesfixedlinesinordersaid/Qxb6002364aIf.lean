/-
  The seat's own text: the walk of stmt at an IF.
-/
import Derived.Test.Qxb6002364aStmt
namespace Go.Proofs.Qxb6002364a
open Go.RowKit Go.Deep

def StmtIH (E : Env) (s m : Nat) : Prop := ∀ (w : World) (k l c d : Nat) (D : Int) (ws : List Int) (os ss : List Value) (rows : List (Nat × List Int)) (wv ov sv : Value), D = (d : Int) → Bld E w s k l c ws os ss rows wv ov sv → Pairs os ss rows → Lim E k l c ws os → E.Ks.length - k ≤ m → d ≤ 8 → Calls Try.prog 10 #[.pointer (some ⟨s, 0, none⟩), .int .i64 D] w (SPost E s d k ws rows w)

set_option maxHeartbeats 1600000 in
theorem stmt_2 (E : Env) (w : World) (s k l c d op m : Nat) (ws : List Int) (os ss : List Value) (rows : List (Nat × List Int)) (wv ov sv : Value) (hB : Bld E w s k l c ws os ss rows wv ov sv) (hP : Pairs os ss rows) (hL : Lim E k l c ws os) (hk : k < E.Ks.length) (hkl : E.Ks.length ≤ 64) (hop : E.Ks.getD k 0 = op) (ho : op < 256) (hn : op % 8 = 2) (hd : d < 8) (ih : StmtIH E s m) (hm : E.Ks.length - (k + 1) ≤ m) :
    Calls Try.prog 10 #[.pointer (some ⟨s, 0, none⟩), .int .i64 d] w (SPost E s d k ws rows w) := by
  have c3 : w.cell? ⟨s, 3, none⟩ = some (.int .i64 k) := hB.st.cell (i := 3) (by omega)
  have f3 := hB.st.frozen 3
  obtain ⟨kb, ko, hkA, _, hkc⟩ := hB.ka (by omega)
  have hcell : w.cell? ⟨kb, ko + k, none⟩ = some (.int .u8 ((op : Nat) : Int)) := by rw [← hop]; exact hkc k hk
  have c0 : w.cell? ⟨s, 0, none⟩ = some (.slice (some ⟨kb, ko, none⟩) E.Ks.length E.kc) := by rw [← hkA]; exact hB.st.cell (i := 0) (by omega)
  have hk1 : (k : Int) < (E.Ks.length : Int) := by omega
  have hk0 : (0 : Int) ≤ (k : Int) := by omega
  have HH : Hid (∀ q, Bld E ((w.drewN q).setCell ⟨s, 3, none⟩ (.int .i64 ((k : Int) + 1))) s (k + 1) l c ws os ss rows wv ov sv ∧ Below s w ((w.drewN q).setCell ⟨s, 3, none⟩ (.int .i64 ((k : Int) + 1)))) := fun q => head_bld hB q
  have HL : Hid (Lim E (k + 1) l c ws os) := ⟨by have := hL.l; omega, by have := hL.c; omega, by have := hL.ws; omega, by have := hL.os; omega, by omega⟩
  have HP : Hid (Pairs os ss rows) := hP
  have g0 : (((op : Nat) : Int) % 8 == 0) = false := beq_eq_false_iff_ne.2 (by omega)
  have g1 : (((op : Nat) : Int) % 8 == 1) = false := beq_eq_false_iff_ne.2 (by omega)
  have g2 : (((op : Nat) : Int) % 8 == 2) = true := beq_iff_eq.2 (by omega)
  have hd' : ¬ (8 : Int) ≤ (d : Int) := by omega
  clear hB hL hP hkA hkc hop hn
  go_enter Try.func10, Try.ntmps10
  go_wp2_with fail
  go_quiet (fail)
  go_wp2_with fail
  go_quiet (fail)
  go_wp2_with fail
  generalize hW : (w.drewN _).setCell ⟨s, 3, none⟩ (.int .i64 ((k : Int) + 1)) = wx
  obtain ⟨hBx, hbx⟩ : Bld E wx s (k + 1) l c ws os ss rows wv ov sv ∧ Below s w wx := by rw [← hW]; exact HH.out _
  clear hW HH c3 f3 hcell c0 g0 g1 g2
  refine (ih wx (k + 1) l c (d + 1) _ ws os ss rows wv ov sv (by omega) hBx HP.out HL.out hm (by omega)).mono ?_
  rintro e w1 ⟨v1, t1, k1, l1, c1, os1, ss1, rows1, wv1, ov1, sv1, rfl, hB1, hP1, hL1, hS1, hr1, hk1', hb1⟩
  have hf1 := stmt_form hS1
  clear hBx HL HP
  by_cases he : op / 8 % 2 = 1
  · have he' : (((op : Nat) : Int) / 8 % 2 == 1) = true := beq_iff_eq.2 (by omega)
    have HB1 : Hid (Bld E w1 s k1 l1 c1 (ws ++ t1) os1 ss1 rows1 wv1 ov1 sv1 ∧ Pairs os1 ss1 rows1 ∧ Lim E k1 l1 c1 (ws ++ t1) os1 ∧ IsStmt rows1 (9 - (d + 1)) v1 t1 ∧ (∀ p ∈ rows, p ∈ rows1)) := ⟨hB1, hP1, hL1, hS1, hr1⟩
    clear hB1 hP1 hL1 hS1 hr1 he
    rcases hf1 with rfl | ⟨ty1, x1, rfl⟩
    all_goals
      go_wp2_with fail
      obtain ⟨hB1, hP1, hL1, hS1, hr1⟩ := HB1.out
      refine (ih w1 k1 l1 c1 (d + 1) _ (ws ++ t1) os1 ss1 rows1 wv1 ov1 sv1 (by omega) hB1 hP1 hL1 (by omega) (by omega)).mono ?_
      rintro e w2 ⟨v2, t2, k2, l2, c2, os2, ss2, rows2, wv2, ov2, sv2, rfl, hB2, hP2, hL2, hS2, hr2, hk2', hb2⟩
      have hf2 := stmt_form hS2
      have HF : Hid (∀ v, IsStmt rows2 (9 - d) v (t1 ++ t2) → SPost E s d k ws rows w (.returned v) w2) := fun v hv =>
        ⟨v, t1 ++ t2, k2, l2, c2, os2, ss2, rows2, wv2, ov2, sv2, rfl, by rw [← List.append_assoc]; exact hB2, hP2, by rw [← List.append_assoc]; exact hL2, hv, fun p hp => hr2 p (hr1 p hp), by omega, hbx.trans (hb1.trans hb2)⟩
      have HS : Hid (∀ a b, IsStmt rows1 (9 - (d + 1)) a t1 → IsStmt rows2 (9 - (d + 1)) b t2 → IsStmt rows2 (9 - d) (.iface 64 (.agg #[.nilIface, a, b])) (t1 ++ t2)) := fun a b ha hb => by
        rw [show 9 - d = (9 - (d + 1)) + 1 from by omega]
        exact .inr ⟨_, _, t1, t2, rfl, stmt_more hr2 _ ha, hb, rfl⟩
      have HS2 : Hid (IsStmt rows2 (9 - (d + 1)) v2 t2) := hS2
      clear hB1 hP1 hL1 hS1 hr1 hB2 hP2 hL2 hS2 hr2
      rcases hf2 with rfl | ⟨ty2, x2, rfl⟩
      all_goals
        go_wp2_with fail
        go_ret
        exact HF.out _ (HS.out _ _ HB1.out.2.2.2.1 HS2.out)
  · have he' : (((op : Nat) : Int) / 8 % 2 == 1) = false := beq_eq_false_iff_ne.2 (by omega)
    have HF : Hid (∀ v, IsStmt rows1 (9 - d) v (t1 ++ []) → SPost E s d k ws rows w (.returned v) w1) := fun v hv =>
      ⟨v, t1 ++ [], k1, l1, c1, os1, ss1, rows1, wv1, ov1, sv1, rfl, by rw [List.append_nil]; exact hB1, hP1, by rw [List.append_nil]; exact hL1, hv, hr1, by omega, hbx.trans hb1⟩
    have HS : Hid (∀ a, a = v1 → IsStmt rows1 (9 - d) (.iface 64 (.agg #[.nilIface, a, .nilIface])) (t1 ++ [])) := fun a ha => by
      subst ha
      rw [show 9 - d = (9 - (d + 1)) + 1 from by omega]
      exact .inr ⟨_, _, t1, [], rfl, hS1, leaf_stmt _ (.inl ⟨.inl rfl, rfl⟩), rfl⟩
    clear hB1 hP1 hL1 hS1 hr1 he
    rcases hf1 with rfl | ⟨ty1, x1, rfl⟩
    all_goals
      go_wp2_with fail
      go_ret
      exact HF.out _ (HS.out _ rfl)
end Go.Proofs.Qxb6002364a
