/-
  The seat's own text: how an argument of type [][]int32 reads as rows.
-/
import Derived.Test.Qxb6000686aMain
import Derived.ProofKit
import Derived.OpenShut
import Derived.Deep.Matrix
namespace Go.Proofs.Qxb6000686a
open Go.ChangeShapes Go.WideShapes Go.ChangeAt Go.RowKit Go.Deep

theorem Try.cells23 : Try.prog.cellsOf 23 = 1 := by kernel_rfl
theorem Try.cells21 : Try.prog.cellsOf 21 = 1 := by kernel_rfl

theorem view {H : Type} {enc : TypeId × Value → H} {W : World} {fuel len cap : Nat} {a0 : Option Addr} {x : DataW H × List MemPlace}
    (hf : DataW.trod enc Try.prog W 0 (fun _ => true) true fuel 22 (Value.slice a0 len cap).cells.toList = some x) :
    len = 0 ∨ ∃ ab ao R, a0 = some ⟨ab, ao, none⟩ ∧ len ≤ 9223372036854775807 ∧ RowsAt W 0 W.heap.size ab ao len R := by
  rcases open_int_rows Try.underlying22 Try.underlying23 Try.underlying21 Try.cells23 Try.cells21 hf with ⟨hcs, _⟩ | ⟨a, len', cap', A, L, C, Z, hcs, _, hl, hm, _, hrow⟩
  · simp [Value.cells] at hcs
    exact .inl hcs.2.1
  · simp [Value.cells] at hcs
    obtain ⟨rfl, rfl, rfl⟩ := hcs
    by_cases h0 : len = 0
    · exact .inl h0
    right
    have hsp : a.spot = none := by simpa [Addr.add] using World.cell?_spot (hrow 0 (by omega)).1
    obtain ⟨ab, ao, sp⟩ := a
    simp only at hsp
    subst hsp
    unfold maxLen at hm
    have hb : ab < W.heap.size := by
      have := World.block_lt_of_cell? _ _ (hrow 0 (by omega)).1
      simpa [Addr.add] using this
    refine ⟨ab, ao, fun v => (Z v).take (L v), rfl, by omega, Nat.zero_le _, hb, fun v hv => ?_⟩
    obtain ⟨hc, h1, h2, h3, h4, h5, h6⟩ := hrow v (by omega)
    rw [add_plain] at hc
    have hlen : ((Z v).take (L v)).length = L v := by simp; omega
    have hget : ∀ i, i < L v → ((Z v).take (L v)).getD i 0 = (Z v).getD i 0 := fun i hi => by simp [hi]
    unfold maxLen at h2
    refine ⟨_, hc, A v, C v, by rw [hlen], by rw [hlen]; exact h1, h2, fun i hi => ?_, fun hp => ?_⟩
    · rw [hlen] at hi
      rw [hget i hi]
      have hi' : i < (Z v).length := by omega
      have hmem : (Z v).getD i 0 ∈ Z v := by
        have : (Z v).getD i 0 = (Z v)[i] := by simp [hi']
        rw [this]; exact List.getElem_mem hi'
      have := bounds_i32 (h4 _ hmem)
      omega
    · rw [hlen] at hp
      cases hA : A v with
      | none => have := h5 hA; omega
      | some a' =>
        obtain ⟨_, hcell⟩ := h6 a' hA
        have hsp : a'.spot = none := by simpa [Addr.add] using World.cell?_spot (hcell 0 (by omega))
        obtain ⟨b, o, sp⟩ := a'
        simp only at hsp
        subst hsp
        have hb : b < W.heap.size := by
          have := World.block_lt_of_cell? _ _ (hcell 0 (by omega))
          simpa [Addr.add] using this
        refine ⟨b, o, Nat.zero_le _, hb, rfl, fun i hi => ?_⟩
        rw [hlen] at hi
        rw [hget i hi, ← add_plain]
        exact hcell i (by omega)
end Go.Proofs.Qxb6000686a
