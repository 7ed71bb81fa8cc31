/-
  The seat's own text: a slice of Slots that the call has built, sorted by the library; what is collected from the map.
-/
import Derived.Test.Qxb6600076aSrtTop
import Derived.Test.Qxb6600076aBase
import Derived.Sort.OwnSortedInts
namespace Go.Proofs.Qxb6600076a
open Go.RowKit Go.Sort Go.Maps

theorem holds_of_blockU {w : World} {g : Nat} {cur : Array Value} {e : TypeId} {ss : List Int} (hb : w.heap[g]? = some (.cells cur e (0, 0))) (ht : cur.toList.take ss.length = ss.map (Value.int .u64)) : Holds (Value.int .u64) w g 0 ss.toArray := by
  intro j hj
  have hj' : j < ss.length := by simpa using hj
  refine ⟨?_, by simp [World.frozen?, hb]⟩
  have h1 : (cur.toList.take ss.length)[j]? = (ss.map (Value.int .u64))[j]? := by rw [ht]
  rw [List.getElem?_take_of_lt hj'] at h1
  simp only [World.cell?, hb, Nat.zero_add]
  simp only [Option.isSome_none, Bool.false_eq_true, if_false]
  rw [← Array.getElem?_toList, h1]
  simp [hj']

theorem heap_sortedU {w : World} {g n : Nat} {os : Array Obj} {cur : Array Value} {e : TypeId} {fr : Nat × Nat} (d : Array Int) (hb : w.heap[g]? = some (.cells cur e fr)) :
    (grow (putRow (Value.int .u64) (Sort.ahead w n) g 0 d) os).heap[g]? = some (.cells (putCells (Value.int .u64) 0 d cur) e fr) := by
  have hg : g < w.heap.size := (Array.getElem?_eq_some_iff.1 hb).1
  rw [heap_grow_old _ _ (by simpa using hg)]
  simp [putRow, mapBlock, Sort.ahead, Array.getElem?_modify, hb, onCells]

theorem grownBy_sortedU {w : World} {g n : Nat} {os : Array Obj} (d : Array Int) : w.grownBy (grow (putRow (Value.int .u64) (Sort.ahead w n) g 0 d) os) (some g) := by
  refine ⟨rfl, rfl, rfl, by simp, fun k hk hne => ?_⟩
  rw [heap_grow_old _ _ (by simpa using hk)]
  have : g ≠ k := fun e => hne (by rw [e])
  simp [putRow, mapBlock, Sort.ahead, Array.getElem?_modify, this]

theorem take_putCellsU (cur : Array Value) (ts : List Int) (h : ts.length ≤ cur.size) : (putCells (Value.int .u64) 0 ts.toArray cur).toList.take ts.length = ts.map (Value.int .u64) := by
  apply List.ext_getElem?
  intro j
  by_cases hj : j < ts.length
  · rw [List.getElem?_take_of_lt hj, Array.getElem?_toList]
    simp [putCells, hj, show j < cur.size by omega]
  · rw [List.getElem?_take_eq_none (by omega), List.getElem?_eq_none (by simp; omega)]

theorem ownsRow_sortedU {w : World} {base g cap n : Nat} {e : TypeId} {os : Array Obj} {cur : Array Value} {ss ts : List Int} (hl : ts.length = ss.length) (hbase : base ≤ g) (hb : w.heap[g]? = some (.cells cur e (0, 0)))
    (h1 : ss.length ≤ cap) (h2 : cap ≤ maxLen) (h3 : cur.size = cap * 1) :
    (grow (putRow (Value.int .u64) (Sort.ahead w n) g 0 ts.toArray) os).ownsRow base e 1 (.slice (some ⟨g, 0, none⟩) ss.length cap) ss.length (ts.map (Value.int .u64)) :=
  ⟨by simp [hl], .inr ⟨g, cap, _, rfl, hbase, heap_sortedU _ hb, h1, h2, by simp [putCells, h3], by rw [Nat.mul_one, ← hl]; exact take_putCellsU cur ts (by omega)⟩⟩

abbrev leI : Int → Int → Bool := fun x y => decide (x ≤ y)
def SortPost (base : Nat) (v : Value) (ks : List Int) (w : World) (e : Ending) (w' : World) : Prop :=
  e = .returned (.tuple #[]) ∧ w'.ownsRow base 40 1 v ks.length ((ks.mergeSort leI).map (Value.int .u64)) ∧ RowKit.Below base w w'
theorem sort_own (base : Nat) (v : Value) (ks : List Int) (w : World) (h : w.ownsRow base 40 1 v ks.length (ks.map (Value.int .u64))) (hl : ks.length ≤ 65536) : Calls Try.prog 34 #[v] w (SortPost base v ks w) := by
  rcases h.2 with ⟨rfl, h0⟩ | ⟨g, cap, cur, rfl, hbase, hb, h1, h2, h3, h4⟩
  · obtain rfl : ks = [] := List.length_eq_zero_iff.1 h0
    refine (Sl.Sort_int_nil none 0 w).mono ?_
    rintro e w' ⟨rfl, rfl⟩
    exact ⟨rfl, by simpa using h, RowKit.Below.refl _ _⟩
  · have hH : Holds (Value.int .u64) w g 0 ks.toArray := holds_of_blockU hb (by simpa using h4)
    have hgl : g < w.heap.size := (Array.getElem?_eq_some_iff.1 hb).1
    refine (Sl.slices_Sort_int g 0 cap ks w hH hgl (by omega)).mono ?_
    rintro e w' ⟨rfl, nn, os, rfl⟩
    exact ⟨rfl, ownsRow_sortedU (by simp) hbase hb h1 h2 h3, (RowKit.Below.refl base w).grown (grownBy_sortedU _) (by omega) (fun j hj => by cases hj; exact hbase)⟩

/-- What has been collected: each key from f on that is no longer to come, once. -/
structure Coll (D : DataW Unit) (f : Int) (left : Lit → Bool) (ks : List Int) : Prop where
  nodup : ks.Nodup
  mem : ∀ x, x ∈ ks ↔ (HasK D x ∧ left (.int .u64 x) = false ∧ f ≤ x)
  wf : ∀ x ∈ ks, (Lit.int .u64 x).wf = true
theorem Coll.start (D : DataW Unit) (f : Int) : Coll D f (Maps.has D) [] :=
  ⟨List.nodup_nil, (fun x => by simp only [List.not_mem_nil, false_iff]; rintro ⟨h1, h2, _⟩; rw [HasK, h2] at h1; cases h1), (fun x hx => by cases hx)⟩
theorem Coll.take {D : DataW Unit} {f : Int} {left : Lit → Bool} {ks : List Int} (h : Coll D f left ks) {x : Int} {y : DataW Unit} (hw : (Lit.int .u64 x).wf = true) (hlk : left (.int .u64 x) = true) (hat : ∀ zd, D.atKey (.int .u64 x) zd = y) (hf : f ≤ x) :
    Coll D f (fun z => left z && !z.sameKey (.int .u64 x)) (ks ++ [x]) := by
  have hhas : HasK D x := has_true_of_atKey hat
  have hnew : x ∉ ks := fun hx => by have := ((h.mem x).1 hx).2.1; rw [hlk] at this; cases this
  refine ⟨List.nodup_append.2 ⟨h.nodup, by simp, fun a ha b hb => by simp at hb; subst hb; exact fun e => hnew (e ▸ ha)⟩, fun y => ?_, fun y hy => ?_⟩
  · by_cases hy : y = x
    · subst hy; simp [hhas, hf, Lit.sameKey]
    · simp [h.mem y, hy, Lit.sameKey]
  · rcases List.mem_append.1 hy with hy | hy
    · exact h.wf y hy
    · simp at hy; subst hy; exact hw
theorem Coll.skip {D : DataW Unit} {f : Int} {left : Lit → Bool} {ks : List Int} (h : Coll D f left ks) {x : Int} (hf : ¬ f ≤ x) :
    Coll D f (fun z => left z && !z.sameKey (.int .u64 x)) ks := by
  refine ⟨h.nodup, fun y => ?_, h.wf⟩
  by_cases hy : y = x
  · subst hy; simp [h.mem, hf]
  · simp [h.mem y, hy, Lit.sameKey]

/-- The collected keys, sorted: strictly rising; just those of the map from f on. -/
structure Sorted (D : DataW Unit) (f : Int) (ts : List Int) : Prop where
  up : ts.Pairwise (· < ·)
  mem : ∀ x, x ∈ ts ↔ (HasK D x ∧ f ≤ x)
  wf : ∀ x ∈ ts, (Lit.int .u64 x).wf = true
theorem Coll.sorted {D : DataW Unit} {f : Int} {left : Lit → Bool} {ks : List Int} (h : Coll D f left ks) (hl : ∀ kl, left kl = false) : Sorted D f (ks.mergeSort leI) := by
  have hp := List.mergeSort_perm ks leI
  have tr : ∀ a b c : Int, leI a b = true → leI b c = true → leI a c = true := fun a b c h1 h2 => by simp only [leI, decide_eq_true_eq] at *; omega
  have to : ∀ a b : Int, (leI a b || leI b a) = true := fun a b => by simp only [leI, Bool.or_eq_true, decide_eq_true_eq]; omega
  have hs := List.pairwise_mergeSort tr to ks
  have hn : (ks.mergeSort leI).Nodup := hp.nodup_iff.2 h.nodup
  refine ⟨?_, fun x => ?_, fun x hx => h.wf x (hp.mem_iff.1 hx)⟩
  · rw [List.pairwise_iff_getElem] at hs ⊢
    have hn' := List.pairwise_iff_getElem.1 hn
    intro i j hi hj hij
    have h1 := hs i j hi hj hij
    have h2 := hn' i j hi hj hij
    simp only [leI, decide_eq_true_eq] at h1
    omega
  · rw [hp.mem_iff, h.mem x, hl]
    simp

end Go.Proofs.Qxb6600076a
