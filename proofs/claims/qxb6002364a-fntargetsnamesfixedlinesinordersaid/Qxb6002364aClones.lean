/-
  The seat's own text: the three clones, and the bound of the input's size.
-/
import Derived.Test.Qxb6002364aAll
namespace Go.Proofs.Qxb6002364a
open Go.RowKit Go.Deep

theorem Try.info5 : (Try.prog.info? 5).map (fun i => (i.zero, i.size, i.bytes)) = some (some (.int .u8 0), 1, 1) := by kernel_rfl
theorem Try.info4 : (Try.prog.info? 4).map (fun i => (i.zero, i.size, i.bytes)) = some (some (.bool false), 1, 1) := by kernel_rfl

/-- The new row, i of its cells filled. -/
def cfill (z : Value) (f : Nat → Value) (i : Nat) : Nat → Value := fun j => if j < i then f j else z
theorem cfill_zero (z : Value) (f : Nat → Value) : (fun _ => z) = cfill z f 0 := by funext j; simp [cfill]
theorem cfill_step {w : World} {b e n : Nat} {z : Value} {f : Nat → Value} {i : Nat} (h : w.rowIs b e n (cfill z f i)) : (w.setCell ⟨b, i, none⟩ (f i)).rowIs b e n (cfill z f (i + 1)) := by
  refine (h.set i _).congr fun j _ => ?_
  unfold cfill
  by_cases ej : j = i
  · subst ej; simp
  · rw [if_neg ej]
    by_cases hj : j < i
    · rw [if_pos hj, if_pos (by omega)]
    · rw [if_neg hj, if_neg (by omega)]
/-- The call answers a copy in new memory, or nil. -/
def ClonePost (n : Nat) (f : Nat → Value) (w : World) (e : Ending) (w' : World) : Prop :=
  ∃ A', e = .returned (.slice A' n n) ∧ ArrAt w' w'.heap.size A' n f ∧ Below w.heap.size w w'
theorem ClonePost.nil (f : Nat → Value) (w : World) : ClonePost 0 f w (.returned (.slice none 0 0)) w := ⟨none, rfl, fun h => absurd h (Nat.lt_irrefl _), Below.refl _ _⟩
theorem ClonePost.row {n e : Nat} {z : Value} {f : Nat → Value} {w w' : World} (hb : Below w.heap.size w w') (hr : w'.rowIs w.heap.size e n (cfill z f n)) : ClonePost n f w (.returned (.slice (some ⟨w.heap.size, 0, none⟩) n n)) w' :=
  ⟨_, rfl, fun _ => ⟨_, 0, rfl, hr.lt, fun i hi => by have := hr.cell hi; simpa [cfill, hi] using this⟩, hb⟩

set_option maxHeartbeats 800000 in
theorem clone_7 (A : Option Addr) (n c : Nat) (g : Nat → Int) (w : World) (hA : ArrAt w w.heap.size A n (fun i => Value.int .u8 (g i))) (hn : n ≤ 4096) :
    Calls Try.prog 7 #[.slice A n c] w (ClonePost n (fun i => Value.int .u8 (g i)) w) := by
  have hq := fun (w : World) (a : Option Addr) (n c n' c' : Nat) => Lib.run_eql_slice_nil (P := Try.prog) w 22 5 a n c n' c' Try.underlying22
  cases A with
  | none =>
    have e : n = 0 := by
      by_cases h : n = 0
      · exact h
      · obtain ⟨_, _, h, _⟩ := hA (by omega); cases h
    subst e
    have H := ClonePost.nil (fun i => Value.int .u8 (g i)) w
    go_enter Try.func7, Try.ntmps7
    go_wp2
    go_ret
    exact H
  | some a =>
    have hmk := run_make_row' (P := Try.prog) 22 5 (Value.int .u8 0) 1 Try.underlying22 Try.info5 rfl .i64 .i64 n (by omega) (by omega)
    have hr0 := World.rowIs_made w (Value.int .u8 0) n 5
    rw [cfill_zero (Value.int .u8 0) (fun i => Value.int .u8 (g i))] at hr0
    have hbel0 := (Below.refl w.heap.size w).alloc (Nat.le_refl _) (.cells (madeCells #[(Value.int .u8 0)] n) 5)
    go_enter Try.func7, Try.ntmps7
    go_wp2
    clear hmk hq
    go_loopg [4] n (fun m i wr => ∃ k : Nat, k ≤ n ∧ m = n - k ∧ i = .int .i64 k ∧ Below w.heap.size w wr ∧ wr.rowIs w.heap.size 5 n (cfill (Value.int .u8 0) (fun i => Value.int .u8 (g i)) k))
    case atStart => exact ⟨0, Nat.zero_le _, rfl, rfl, hbel0, hr0⟩
    case round =>
      obtain ⟨k, hk, rfl, rfl, hbel, hr⟩ := hrel
      clear hr0 hbel0
      by_cases hlt : k < n
      · obtain ⟨b, o, ea, hb, hc⟩ := hA (by omega)
        cases ea
        have hcell : wr.cell? ⟨b, o + k, none⟩ = some (Value.int .u8 (g k)) := (hbel.cell (p := ⟨b, o + k, none⟩) hb).trans (hc k hlt)
        have hnew : wr.cell? ⟨w.heap.size, k, none⟩ = some (Value.int .u8 0) := by
          have := hr.cell hlt
          simpa [cfill] using this
        have hfz := hr.frozen k
        have H : Hid (Below w.heap.size w (wr.setCell ⟨w.heap.size, k, none⟩ (Value.int .u8 (g k))) ∧ (wr.setCell ⟨w.heap.size, k, none⟩ (Value.int .u8 (g k))).rowIs w.heap.size 5 n (cfill (Value.int .u8 0) (fun i => Value.int .u8 (g i)) (k + 1))) :=
          ⟨hbel.setCell (Nat.le_refl _) _, cfill_step (f := fun i => Value.int .u8 (g i)) hr⟩
        clear hr hbel hc hA
        generalize g k = gk at hcell H ⊢
        go_wp2
        go_roundg (n - (k + 1))
        case measure => omega
        case rel => exact ⟨k + 1, by omega, rfl, by go_num, H.out.1, H.out.2⟩
      · have e : k = n := by omega
        subst e
        have H := ClonePost.row hbel hr
        clear hr hbel hA
        go_wp2
        go_ret
        exact H

set_option maxHeartbeats 800000 in
theorem clone_8 (A : Option Addr) (n c : Nat) (g : Nat → Int) (w : World) (hA : ArrAt w w.heap.size A n (fun i => Value.int .i64 (g i))) (hn : n ≤ 4096) :
    Calls Try.prog 8 #[.slice A n c] w (ClonePost n (fun i => Value.int .i64 (g i)) w) := by
  have hq := fun (w : World) (a : Option Addr) (n c n' c' : Nat) => Lib.run_eql_slice_nil (P := Try.prog) w 23 3 a n c n' c' Try.underlying23
  cases A with
  | none =>
    have e : n = 0 := by
      by_cases h : n = 0
      · exact h
      · obtain ⟨_, _, h, _⟩ := hA (by omega); cases h
    subst e
    have H := ClonePost.nil (fun i => Value.int .i64 (g i)) w
    go_enter Try.func8, Try.ntmps8
    go_wp2
    go_ret
    exact H
  | some a =>
    have hmk := run_make_row' (P := Try.prog) 23 3 (Value.int .i64 0) 8 Try.underlying23 Try.info3 rfl .i64 .i64 n (by omega) (by omega)
    have hr0 := World.rowIs_made w (Value.int .i64 0) n 3
    rw [cfill_zero (Value.int .i64 0) (fun i => Value.int .i64 (g i))] at hr0
    have hbel0 := (Below.refl w.heap.size w).alloc (Nat.le_refl _) (.cells (madeCells #[(Value.int .i64 0)] n) 3)
    go_enter Try.func8, Try.ntmps8
    go_wp2
    clear hmk hq
    go_loopg [4] n (fun m i wr => ∃ k : Nat, k ≤ n ∧ m = n - k ∧ i = .int .i64 k ∧ Below w.heap.size w wr ∧ wr.rowIs w.heap.size 3 n (cfill (Value.int .i64 0) (fun i => Value.int .i64 (g i)) k))
    case atStart => exact ⟨0, Nat.zero_le _, rfl, rfl, hbel0, hr0⟩
    case round =>
      obtain ⟨k, hk, rfl, rfl, hbel, hr⟩ := hrel
      clear hr0 hbel0
      by_cases hlt : k < n
      · obtain ⟨b, o, ea, hb, hc⟩ := hA (by omega)
        cases ea
        have hcell : wr.cell? ⟨b, o + k, none⟩ = some (Value.int .i64 (g k)) := (hbel.cell (p := ⟨b, o + k, none⟩) hb).trans (hc k hlt)
        have hnew : wr.cell? ⟨w.heap.size, k, none⟩ = some (Value.int .i64 0) := by
          have := hr.cell hlt
          simpa [cfill] using this
        have hfz := hr.frozen k
        have H : Hid (Below w.heap.size w (wr.setCell ⟨w.heap.size, k, none⟩ (Value.int .i64 (g k))) ∧ (wr.setCell ⟨w.heap.size, k, none⟩ (Value.int .i64 (g k))).rowIs w.heap.size 3 n (cfill (Value.int .i64 0) (fun i => Value.int .i64 (g i)) (k + 1))) :=
          ⟨hbel.setCell (Nat.le_refl _) _, cfill_step (f := fun i => Value.int .i64 (g i)) hr⟩
        clear hr hbel hc hA
        generalize g k = gk at hcell H ⊢
        go_wp2
        go_roundg (n - (k + 1))
        case measure => omega
        case rel => exact ⟨k + 1, by omega, rfl, by go_num, H.out.1, H.out.2⟩
      · have e : k = n := by omega
        subst e
        have H := ClonePost.row hbel hr
        clear hr hbel hA
        go_wp2
        go_ret
        exact H

set_option maxHeartbeats 800000 in
theorem clone_9 (A : Option Addr) (n c : Nat) (g : Nat → Bool) (w : World) (hA : ArrAt w w.heap.size A n (fun i => Value.bool (g i))) (hn : n ≤ 4096) :
    Calls Try.prog 9 #[.slice A n c] w (ClonePost n (fun i => Value.bool (g i)) w) := by
  have hq := fun (w : World) (a : Option Addr) (n c n' c' : Nat) => Lib.run_eql_slice_nil (P := Try.prog) w 24 4 a n c n' c' Try.underlying24
  cases A with
  | none =>
    have e : n = 0 := by
      by_cases h : n = 0
      · exact h
      · obtain ⟨_, _, h, _⟩ := hA (by omega); cases h
    subst e
    have H := ClonePost.nil (fun i => Value.bool (g i)) w
    go_enter Try.func9, Try.ntmps9
    go_wp2
    go_ret
    exact H
  | some a =>
    have hmk := run_make_row' (P := Try.prog) 24 4 (Value.bool false) 1 Try.underlying24 Try.info4 rfl .i64 .i64 n (by omega) (by omega)
    have hr0 := World.rowIs_made w (Value.bool false) n 4
    rw [cfill_zero (Value.bool false) (fun i => Value.bool (g i))] at hr0
    have hbel0 := (Below.refl w.heap.size w).alloc (Nat.le_refl _) (.cells (madeCells #[(Value.bool false)] n) 4)
    go_enter Try.func9, Try.ntmps9
    go_wp2
    clear hmk hq
    go_loopg [4] n (fun m i wr => ∃ k : Nat, k ≤ n ∧ m = n - k ∧ i = .int .i64 k ∧ Below w.heap.size w wr ∧ wr.rowIs w.heap.size 4 n (cfill (Value.bool false) (fun i => Value.bool (g i)) k))
    case atStart => exact ⟨0, Nat.zero_le _, rfl, rfl, hbel0, hr0⟩
    case round =>
      obtain ⟨k, hk, rfl, rfl, hbel, hr⟩ := hrel
      clear hr0 hbel0
      by_cases hlt : k < n
      · obtain ⟨b, o, ea, hb, hc⟩ := hA (by omega)
        cases ea
        have hcell : wr.cell? ⟨b, o + k, none⟩ = some (Value.bool (g k)) := (hbel.cell (p := ⟨b, o + k, none⟩) hb).trans (hc k hlt)
        have hnew : wr.cell? ⟨w.heap.size, k, none⟩ = some (Value.bool false) := by
          have := hr.cell hlt
          simpa [cfill] using this
        have hfz := hr.frozen k
        have H : Hid (Below w.heap.size w (wr.setCell ⟨w.heap.size, k, none⟩ (Value.bool (g k))) ∧ (wr.setCell ⟨w.heap.size, k, none⟩ (Value.bool (g k))).rowIs w.heap.size 4 n (cfill (Value.bool false) (fun i => Value.bool (g i)) (k + 1))) :=
          ⟨hbel.setCell (Nat.le_refl _) _, cfill_step (f := fun i => Value.bool (g i)) hr⟩
        clear hr hbel hc hA
        generalize g k = gk at hcell H ⊢
        go_wp2
        go_roundg (n - (k + 1))
        case measure => omega
        case rel => exact ⟨k + 1, by omega, rfl, by go_num, H.out.1, H.out.2⟩
      · have e : k = n := by omega
        subst e
        have H := ClonePost.row hbel hr
        clear hr hbel hA
        go_wp2
        go_ret
        exact H

def BytesPost (w : World) (e : Ending) (w' : World) : Prop := ∃ b, e = .returned (.bool b) ∧ w' = w
set_option maxHeartbeats 800000 in
theorem bytes_any (A0 A1 A2 : Option Addr) (n0 c0 n1 c1 n2 c2 : Nat) (w : World) :
    Calls Try.prog 6 #[.slice A0 n0 c0, .slice A1 n1 c1, .slice A2 n2 c2] w (BytesPost w) := by
  by_cases h0 : (n0 : Int) > 1048576
  · go_enter Try.func6, Try.ntmps6
    go_wp2
    go_ret
    exact ⟨_, rfl, rfl⟩
  by_cases h1 : (n1 : Int) > 1048576
  · go_enter Try.func6, Try.ntmps6
    go_wp2
    go_ret
    exact ⟨_, rfl, rfl⟩
  by_cases h2 : (n0 : Int) + n1 > 1048576
  · go_enter Try.func6, Try.ntmps6
    go_wp2
    go_ret
    exact ⟨_, rfl, rfl⟩
  by_cases h3 : (n2 : Int) > 1048576
  · go_enter Try.func6, Try.ntmps6
    go_wp2
    go_ret
    exact ⟨_, rfl, rfl⟩
  by_cases h4 : (n0 : Int) + n1 + n2 > 1048576
  · go_enter Try.func6, Try.ntmps6
    go_wp2
    go_ret
    exact ⟨_, rfl, rfl⟩
  · go_enter Try.func6, Try.ntmps6
    go_wp2
    go_ret
    exact ⟨_, rfl, rfl⟩
end Go.Proofs.Qxb6002364a
