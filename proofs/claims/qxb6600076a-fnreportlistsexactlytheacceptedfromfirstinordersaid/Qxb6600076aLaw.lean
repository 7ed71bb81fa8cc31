/-
  The seat's own text: the statement 'FnReportListsExactlyTheAcceptedFromFirstInOrderSaid', out of the walks (the row's step off the given shell).
-/
import Derived.Test.Qxb6600076aRows
import Derived.Test.Qxb6600076aView
import Derived.Test.Qxb6600076aHead
import Derived.ShutString
import Derived.ChangeOld
import Derived.Below
namespace Go.Proofs.Qxb6600076a.reportLaw
open Go.ChangeShapes Go.WideShapes Go.ChangeAt Go.RowKit

theorem own : ownKnob Try.prog.godebug = none := by kernel_rfl
theorem laidOut : laidOutB Try.prog = true := by kernel_rfl

theorem walk (A0 A1 : Option Addr) (n0 c0 n1 c1 : Nat) (f : Int) (w : World)
    (h0 : ∃ zs : List Int, n0 = zs.length ∧ ArrAt w w.heap.size A0 zs.length (fun i => .int .u64 (zs.getD i 0)) ∧ ∀ n ∈ zs, (Lit.int .u64 n).wf = true)
    (h1 : ∃ zs : List Int, n1 = zs.length ∧ ArrAt w w.heap.size A1 zs.length (fun i => .int .u64 (zs.getD i 0)) ∧ ∀ n ∈ zs, (Lit.int .u64 n).wf = true) :
    Calls Try.prog 4 #[.slice A0 n0 c0, .slice A1 n1 c1, .int .u64 f] w fun e w' => e = .returned (.bool true) ∧ Below w.heap.size w w' := by
  obtain ⟨zs, rfl, hA0, hz⟩ := h0
  obtain ⟨rs, rfl, hA1, _⟩ := h1
  exact main_any A0 A1 c0 c1 zs rs f w hA0 hA1 hz

set_option maxRecDepth 100000 in
theorem lifted (os : Os) (started : os.Started) (H : Type) (enc : TypeId × Value → H) :
    ReturnsInHanded {} Try.checked os 4 .any (Rows.fnReportListsExactlyTheAcceptedFromFirstInOrderSpec.pre6 enc Try.prog Try.f4 Rows.fnReportListsExactlyTheAcceptedFromFirstInOrderRow.domain false) (Rows.fnReportListsExactlyTheAcceptedFromFirstInOrderSpec.post enc Try.prog Try.f4 false true false false) := by
  refine returnsInHanded_of_change (C := Try.checked) own started (by kernel_rfl) Try.func4
    (ChangeSpec.witness6 (enc := enc) (C := Try.checked) false ⟨#[], #[.slice none 0 0, .slice none 0 0, .int .u64 0], []⟩ 8 (by kernel_rfl) (by kernel_rfl) (by kernel_rfl) (by kernel_rfl)) ?_
  intro W base args ds gs before hval0 hW hcnd _
  have hval : ∀ (j : Nat) t v, Try.f4.params[j]? = some t → args[j]? = some v → Value.okWide Try.prog W .any base t v := hval0
  have hW' := hW
  obtain ⟨p, q, hA0, hV, rfl, hfz, hnd⟩ := hW
  have hA : DataW.TrodAll enc Try.prog W 0 (fun _ => true) true Try.f4.params.toList args.toList ds p := hA0
  rw [Try.params4] at hA hval
  obtain ⟨v0, vs0, d0, ds0, p0, q0, hargs, rfl, rfl, h0, r0⟩ := trodAll_cons hA
  obtain ⟨v1, vs1, d1, ds1, p1, q1, rfl, rfl, rfl, h1, r1⟩ := trodAll_cons r0
  obtain ⟨v2, vs2, d2, ds2, p2, q2, rfl, rfl, rfl, h2, r2⟩ := trodAll_cons r1
  obtain ⟨rfl, rfl, rfl⟩ := trodAll_nil r2
  obtain rfl : args = #[v0, v1, v2] := by cases args; simp_all
  obtain ⟨rfl, rfl⟩ := trodVars_none hV
  obtain ⟨a0, len0, cap0, rfl⟩ := okWide_slice Try.underlying22 (hval 0 22 v0 rfl rfl)
  have k0 := h0
  have lt0 : ∀ x ∈ p0, x.block < W.heap.size := by obtain ⟨m, hm⟩ := k0; exact DataW.trod_lt m _ _ _ hm
  obtain ⟨fuel0, hf0⟩ := h0
  have z0 := view_ints Try.underlying22 Try.underlying25 Try.cells25 hf0
  obtain ⟨a1, len1, cap1, rfl⟩ := okWide_slice Try.underlying22 (hval 1 22 v1 rfl rfl)
  have k1 := h1
  have lt1 : ∀ x ∈ p1, x.block < W.heap.size := by obtain ⟨m, hm⟩ := k1; exact DataW.trod_lt m _ _ _ hm
  obtain ⟨fuel1, hf1⟩ := h1
  have z1 := view_ints Try.underlying22 Try.underlying25 Try.cells25 hf1
  obtain ⟨a2, rfl, rfl, rfl, w2⟩ := open_int Try.underlying25 (hval 2 25 v2 rfl rfl) h2
  clear hA0 hval0
  refine (walk a0 a1 len0 cap0 len1 cap1 a2 W z0 z1).mono fun e W' ⟨he, bel⟩ => ?_
  subst he
  exact ⟨_, rfl, _, _, _, [], _, [], hW', trodAll_mk1 (shut_bool Try.underlying4 _), (trodAll_cons_mk (Below.trod laidOut (by kernel_rfl) (of_decide_eq_true (by kernel_rfl)) k0 bel lt0) (trodAll_cons_mk (Below.trod laidOut (by kernel_rfl) (of_decide_eq_true (by kernel_rfl)) k1 bel lt1) (trodAll_cons_mk (shut_int Try.underlying25 w2) trodAll_mk0))), rfl, bel.frame _, fun h => by cases h⟩

set_option maxRecDepth 100000 in
theorem closed : joinedFacts Try.pinned.checked.prog 4 Try.f4 Rows.fnReportListsExactlyTheAcceptedFromFirstInOrderSpec Rows.fnReportListsExactlyTheAcceptedFromFirstInOrderRow = true :=
  Head.facts_of _ _ _ _ _ (by as_aux_lemma => kernel_rfl) (by as_aux_lemma => kernel_rfl) (by as_aux_lemma => kernel_rfl) (by as_aux_lemma => kernel_rfl) (by as_aux_lemma => kernel_rfl) (by as_aux_lemma => kernel_rfl) (by as_aux_lemma => kernel_rfl) (by as_aux_lemma => kernel_rfl) (by as_aux_lemma => kernel_rfl) (by as_aux_lemma => kernel_rfl) (by as_aux_lemma => kernel_rfl) (by as_aux_lemma => kernel_rfl) (by as_aux_lemma => kernel_rfl) (by as_aux_lemma => kernel_rfl) (by as_aux_lemma => kernel_rfl) (by as_aux_lemma => kernel_rfl) (by as_aux_lemma => kernel_rfl) (by as_aux_lemma => kernel_rfl) (by as_aux_lemma => kernel_rfl) (by as_aux_lemma => kernel_rfl) (by as_aux_lemma => kernel_rfl) (by as_aux_lemma => kernel_rfl) (by as_aux_lemma => kernel_rfl) (by as_aux_lemma => kernel_rfl) (by as_aux_lemma => kernel_rfl) (by as_aux_lemma => kernel_rfl) (by as_aux_lemma => kernel_rfl) (by as_aux_lemma => kernel_rfl) Head.may_enter Head.lifts_final rfl Head.make_is rfl rfl rfl

theorem over : Rows.fnReportListsExactlyTheAcceptedFromFirstInOrderRow.holds Try.pinned (OpenSpec.ofChange Rows.fnReportListsExactlyTheAcceptedFromFirstInOrderSpec) :=
  OpenClaim.holds_of_wide 4 Try.f4 rfl rfl rfl rfl rfl rfl rfl ⟨rfl, rfl, rfl, rfl, rfl⟩ rfl rfl rfl rfl rfl (by as_aux_lemma => kernel_rfl) Try.func4 closed
    (of_decide_eq_true (by as_aux_lemma => kernel_rfl)) (by unfold Func.isWrapper; first | (rw [if_pos (by decide +kernel)]; kernel_rfl) | (rw [if_neg (by decide +kernel)]; exact ⟨rfl, rfl⟩))
    (fun os started H enc _ => lifted os started H enc)

/-- THE STATEMENT -/
theorem proved : Rows.FnReportListsExactlyTheAcceptedFromFirstInOrderSaid := over
end Go.Proofs.Qxb6600076a.reportLaw
