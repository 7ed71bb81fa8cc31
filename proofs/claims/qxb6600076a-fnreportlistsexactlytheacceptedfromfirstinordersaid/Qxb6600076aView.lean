/-
  The seat's own text: how the two slices read as lists.
-/
import Derived.Test.Qxb6600076aMain
import Derived.ProofKit
import Derived.OpenShut
import Derived.ChangeSlices
namespace Go.Proofs.Qxb6600076a
open Go.ChangeShapes Go.WideShapes Go.ChangeAt Go.RowKit Go.Deep

theorem Try.cells25 : Try.prog.cellsOf 25 = 1 := by kernel_rfl

theorem arr_of {W : World} {a : Addr} {n : Nat} {f : Nat → Value} (h : ∀ i, i < n → W.cell? (a.add i) = some (f i)) : ArrAt W W.heap.size (some a) n f := fun hn => by
  have hsp : a.spot = none := by simpa [Addr.add] using World.cell?_spot (h 0 hn)
  obtain ⟨b, o, sp⟩ := a
  simp only at hsp
  subst hsp
  have hb : b < W.heap.size := by
    have := World.block_lt_of_cell? _ _ (h 0 hn)
    simpa [Addr.add] using this
  refine ⟨b, o, rfl, hb, fun i hi => ?_⟩
  have e : (⟨b, o, none⟩ : Addr).add i = ⟨b, o + i, none⟩ := by unfold Addr.add; split <;> simp_all
  rw [← e]
  exact h i hi

theorem view_ints {H : Type} {enc : TypeId × Value → H} {W : World} {fuel len cap t e : Nat} {k : IntKind} {a0 : Option Addr} {x : DataW H × List MemPlace} (ht : Try.prog.underlying t = some (.slice e)) (he : Try.prog.underlying e = some (.int k)) (hc : Try.prog.cellsOf e = 1)
    (hf : DataW.trod enc Try.prog W 0 (fun _ => true) true fuel t (Value.slice a0 len cap).cells.toList = some x) :
    ∃ zs : List Int, len = zs.length ∧ ArrAt W W.heap.size a0 zs.length (fun i => .int k (zs.getD i 0)) ∧ ∀ n ∈ zs, (Lit.int k n).wf = true := by
  rcases open_ints ht he hc hf with ⟨hcs, _⟩ | ⟨a, len', cap', zs, hcs, _, hl, hm, hz, _, hcell, hwf⟩
  · simp [Value.cells] at hcs
    exact ⟨[], hcs.2.1, fun h => absurd h (Nat.lt_irrefl _), fun n hn => by cases hn⟩
  · simp [Value.cells] at hcs
    obtain ⟨rfl, rfl, rfl⟩ := hcs
    have hz : zs.length = cap := by simpa using hz
    have hlen : (zs.take len).length = len := by simp; omega
    refine ⟨zs.take len, hlen.symm, ?_, fun n hn => hwf n (List.mem_of_mem_take hn)⟩
    rw [hlen]
    refine arr_of fun i hi => ?_
    rw [hcell i (by omega)]
    simp [hi]
end Go.Proofs.Qxb6600076a
