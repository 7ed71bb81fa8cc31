/-
  The seat's own text: how the arrays, the proposals and the map of proposals lie; the size test.
-/
import Derived.Test.Qxb6600076aProg
import Derived.Maps.RangeWalk
import Derived.Maps.OwnSet
import Derived.Maps.OwnOps
import Derived.WalkKit
import Derived.WalkSpells
import Derived.WalkLawsBesides
import Derived.BigQuiet
import Derived.Deep.LoopGhost
import Derived.Deep.QuietTactic
import Derived.Deep.OwnRows
import Derived.Deep.AppendLies
namespace Go.Proofs.Qxb6600076a
open Go.RowKit Go.Deep Go.Maps

/-- An array in memory below block B, told by its elements. -/
def ArrAt (w : World) (B : Nat) (A : Option Addr) (n : Nat) (f : Nat → Value) : Prop := 0 < n → ∃ b o, A = some ⟨b, o, none⟩ ∧ b < B ∧ ∀ i, i < n → w.cell? ⟨b, o + i, none⟩ = some (f i)
theorem ArrAt.kept {w w' : World} {B : Nat} {A : Option Addr} {n : Nat} {f : Nat → Value} (h : ArrAt w B A n f) (hk : ∀ b, b < B → w'.heap[b]? = w.heap[b]?) : ArrAt w' B A n f := fun hn => by
  obtain ⟨b, o, h1, h2, h3⟩ := h hn
  exact ⟨b, o, h1, h2, fun i hi => (World.cell?_of_block (w := w) (a := ⟨b, o + i, none⟩) (hk b h2)).trans (h3 i hi)⟩
theorem ArrAt.mono {w : World} {B B' : Nat} {A : Option Addr} {n : Nat} {f : Nat → Value} (h : ArrAt w B A n f) (hB : B ≤ B') : ArrAt w B' A n f := fun hn => by
  obtain ⟨b, o, h1, h2, h3⟩ := h hn
  exact ⟨b, o, h1, by omega, h3⟩
theorem ArrAt.below {w w' : World} {B : Nat} {A : Option Addr} {n : Nat} {f : Nat → Value} (h : ArrAt w B A n f) (hb : Below B w w') : ArrAt w' B A n f := h.kept fun b hbb => hb.block b hbb

/-- A Proposal's six cells. -/
structure Pr where
  r : Int
  a : Int
  b : Int
  c : Int
  s : ByteArray
  x : Bool
def Pr.cells (p : Pr) : Array Value := #[.int .u64 p.r, .int .u32 p.a, .int .u32 p.b, .int .u64 p.c, .string p.s, .bool p.x]
def Pr.val (p : Pr) : Value := .agg #[.int .u64 p.r, .int .u32 p.a, .int .u32 p.b, .int .u64 p.c, .string p.s, .bool p.x]
def Pr.dat (p : Pr) : DataW Unit := .agg [.lit (.int .u64 p.r), .lit (.int .u32 p.a), .lit (.int .u32 p.b), .lit (.int .u64 p.c), .lit (.string p.s.data.toList), .lit (.bool p.x)]
/-- How a Proposal in the map reads. -/
def elemP (v : Value) : Option (DataW Unit × List MemPlace) :=
  match v with
  | .agg cs =>
    match cs.toList with
    | [.int .u64 r, .int .u32 a, .int .u32 b, .int .u64 c, .string s, .bool x] => some (Pr.dat ⟨r, a, b, c, s, x⟩, [])
    | _ => none
  | _ => none
theorem elemP_val (p : Pr) : elemP p.val = some (p.dat, []) := rfl
theorem elemP_inv {v : Value} {y : DataW Unit × List MemPlace} (h : elemP v = some y) : ∃ p : Pr, v = p.val ∧ y = (p.dat, []) := by
  unfold elemP at h
  split at h
  · rename_i cs
    split at h
    · rename_i r a b c s x e
      cases h
      refine ⟨⟨r, a, b, c, s, x⟩, ?_, rfl⟩
      unfold Pr.val
      rw [← Array.toArray_toList (xs := cs), e]
    · cases h
  · cases h
theorem dat_inj {p q : Pr} (h : p.dat = q.dat) : p = q := by
  cases p with
  | mk r a b c s x =>
    cases q with
    | mk r' a' b' c' s' x' =>
      unfold Pr.dat at h
      simp at h
      obtain ⟨rfl, rfl, rfl, rfl, hs, rfl⟩ := h
      cases s with | mk s => cases s' with | mk s' => cases s; cases s'; simp at hs; subst hs; rfl

theorem law : Keyed Try.prog 40 := int_keyed Try.underlying40
def zeroP : Pr := ⟨0, 0, 0, 0, ⟨#[]⟩, false⟩
theorem zeroE (w : World) : (zeroValue 49).run Try.prog w = .ok zeroP.val w := by kernel_rfl

/-- The map of proposals in block B reads as D. -/
def MapAt (w : World) (B n : Nat) (D : DataW Unit) : Prop := w.ownsMap Try.prog 40 elemP B n D
def HasK (D : DataW Unit) (x : Int) : Prop := Maps.has D (.int .u64 x) = true

theorem wf_at {zs : List Int} (h : ∀ n ∈ zs, (Lit.int .u64 n).wf = true) (k : Nat) : (Lit.int .u64 (zs.getD k 0)).wf = true := by
  by_cases hk : k < zs.length
  · have := h _ (List.getElem_mem hk)
    simpa [List.getD, List.getElem?_eq_getElem hk] using this
  · simp [List.getD, List.getElem?_eq_none (Nat.le_of_not_lt hk)]; decide
theorem isKey (x : Int) : WideAt.IsKeyLit (.int .u64 x) := by trivial

theorem has_step {D : DataW Unit} {zs : List Int} {k : Nat} (hk : k < zs.length) (hD : IsMap D) (h : ∀ x, HasK D x ↔ x ∈ zs.take k) (d : DataW Unit) : ∀ x, HasK (D.put (.int .u64 (zs.getD k 0)) d) x ↔ x ∈ zs.take (k + 1) := by
  intro x
  have e : zs.getD k 0 = zs[k] := by simp [List.getD, List.getElem?_eq_getElem hk]
  rw [e, List.take_succ_eq_append_getElem hk, List.mem_append, List.mem_singleton]
  by_cases hx : x = zs[k]
  · subst hx
    simp only [or_true, iff_true]
    exact has_put_same hD (isKey _) d
  · simp only [hx, or_false]
    unfold HasK
    rw [has_put_other (by intro h; injection h with _ h; exact hx h)]
    exact h x

def BytesPost (w : World) (e : Ending) (w' : World) : Prop := ∃ b, e = .returned (.bool b) ∧ w' = w
set_option maxHeartbeats 800000 in
theorem bytes_any (A0 A1 : Option Addr) (n0 c0 n1 c1 : Nat) (f : Int) (w : World) : Calls Try.prog 11 #[.slice A0 n0 c0, .slice A1 n1 c1, .int .u64 f] w (BytesPost w) := by
  by_cases h0 : (n0 : Int) > 1048576
  · go_enter Try.func11, Try.ntmps11
    go_wp2
    go_ret
    exact ⟨_, rfl, rfl⟩
  by_cases h1 : (n1 : Int) > 1048576
  · go_enter Try.func11, Try.ntmps11
    go_wp2
    go_ret
    exact ⟨_, rfl, rfl⟩
  by_cases h2 : (n0 : Int) + n1 > 1048576
  · go_enter Try.func11, Try.ntmps11
    go_wp2
    go_ret
    exact ⟨_, rfl, rfl⟩
  · go_enter Try.func11, Try.ntmps11
    go_wp2
    go_ret
    exact ⟨_, rfl, rfl⟩
end Go.Proofs.Qxb6600076a
