/-
  The seat's own text: stmt, whole; the clones.
-/
import Derived.Test.Qxb6002364aIf
import Derived.Test.Qxb6002364aOn
namespace Go.Proofs.Qxb6002364a
open Go.RowKit Go.Deep

theorem stmt_any (E : Env) (s : Nat) (hkl : E.Ks.length ≤ 64) (hK : ∀ x ∈ E.Ks, x < 256) (m : Nat) : StmtIH E s m := by
  induction m with
  | zero =>
    intro w k l c d D ws os ss rows wv ov sv hD hB hP hL hm hd
    subst hD
    exact stmt_over E w s k l c d ws os ss rows wv ov sv hB hP hL (by omega)
  | succ m ih =>
    intro w k l c d D ws os ss rows wv ov sv hD hB hP hL hm hd
    subst hD
    by_cases hk : k < E.Ks.length
    · have hop : E.Ks.getD k 0 < 256 := by
        have : E.Ks.getD k 0 = E.Ks[k] := by simp [hk]
        rw [this]; exact hK _ (List.getElem_mem hk)
      obtain ⟨op, ho⟩ : ∃ op, E.Ks.getD k 0 = op := ⟨_, rfl⟩
      rw [ho] at hop
      rcases (show op % 8 = 0 ∨ op % 8 = 1 ∨ op % 8 = 2 ∨ op % 8 = 3 ∨ op % 8 = 4 ∨ op % 8 = 5 ∨ op % 8 = 6 ∨ op % 8 = 7 by omega) with h | h | h | h | h | h | h | h
      · exact stmt_0 E w s k l c d op ws os ss rows wv ov sv hB hP hL hk hkl ho hop h
      · exact stmt_1 E w s k l c d op ws os ss rows wv ov sv hB hP hL hk hkl ho hop h
      · by_cases h8 : 8 ≤ d
        · exact stmt_2_deep E w s k l c d op ws os ss rows wv ov sv hB hP hL hk hkl ho hop h h8
        · exact stmt_2 E w s k l c d op m ws os ss rows wv ov sv hB hP hL hk hkl ho hop h (by omega) ih (by omega)
      · exact stmt_3 E w s k l c d op ws os ss rows wv ov sv hB hP hL hk hkl ho hop h
      · exact stmt_4 E w s k l c d op ws os ss rows wv ov sv hB hP hL hk hkl ho hop h
      · exact stmt_5 E w s k l c d op ws os ss rows wv ov sv hB hP hL hk hkl ho hop h
      · exact stmt_6 E w s k l c d op ws os ss rows wv ov sv hB hP hL hk hkl ho hop h
      · exact stmt_7 E w s k l c d op ws os ss rows wv ov sv hB hP hL hk hkl ho hop h
    · exact stmt_over E w s k l c d ws os ss rows wv ov sv hB hP hL hk
end Go.Proofs.Qxb6002364a
