/-
  The seat's own text: how a slice of slices of int32 lies in memory; the functions that only read one.
-/
import Derived.Test.Qxb6000686aProg
import Derived.Test.Qxb6000686aPlain
import Derived.WalkKit
import Derived.WalkSpells
import Derived.WalkLawsBesides
import Derived.Deep.LoopGhost
import Derived.Deep.OwnRows
namespace Go.Proofs.Qxb6000686a
open Go.RowKit Go.Deep Plain

theorem ret_int {k : IntKind} {a b : Int} (h : a = b) : Ending.returned (.int k a) = .returned (.int k b) := by rw [h]

/-- A row as a value: its length is the list's; where there is an element its cells lie in one block of [B0, B). -/
def RowV (w : World) (B0 B : Nat) (val : Value) (l : List Int) : Prop :=
  ∃ A C, val = .slice A l.length C ∧ l.length ≤ C ∧ C ≤ 9223372036854775807 ∧ (∀ i, i < l.length → -2147483648 ≤ l.getD i 0 ∧ l.getD i 0 ≤ 2147483647) ∧ (0 < l.length → ∃ b o, B0 ≤ b ∧ b < B ∧ A = some ⟨b, o, none⟩ ∧ ∀ i, i < l.length → w.cell? ⟨b, o + i, none⟩ = some (.int .i32 (l.getD i 0)))

/-- n rows, their headers from cell ao of block ab on. -/
def RowsAt (w : World) (B0 B ab ao n : Nat) (R : Nat → List Int) : Prop :=
  B0 ≤ ab ∧ ab < B ∧ ∀ v, v < n → ∃ val, w.cell? ⟨ab, ao + v, none⟩ = some val ∧ RowV w B0 B val (R v)

theorem RowV.kept {w w' : World} {B0 B : Nat} {val : Value} {l : List Int} (h : RowV w B0 B val l) (hk : ∀ b, B0 ≤ b → b < B → w'.heap[b]? = w.heap[b]?) : RowV w' B0 B val l := by
  obtain ⟨A, C, h1, h2, h2', h2z, h3⟩ := h
  refine ⟨A, C, h1, h2, h2', h2z, fun hl => ?_⟩
  obtain ⟨b, o, hb0, hb, hA, hc⟩ := h3 hl
  exact ⟨b, o, hb0, hb, hA, fun i hi => (World.cell?_of_block (w := w) (a := ⟨b, o + i, none⟩) (hk b hb0 hb)).trans (hc i hi)⟩
theorem RowsAt.kept {w w' : World} {B0 B ab ao n : Nat} {R : Nat → List Int} (h : RowsAt w B0 B ab ao n R) (hk : ∀ b, B0 ≤ b → b < B → w'.heap[b]? = w.heap[b]?) : RowsAt w' B0 B ab ao n R := by
  obtain ⟨h0, h1, h2⟩ := h
  refine ⟨h0, h1, fun v hv => ?_⟩
  obtain ⟨val, hc, hr⟩ := h2 v hv
  exact ⟨val, (World.cell?_of_block (w := w) (a := ⟨ab, ao + v, none⟩) (hk ab h0 h1)).trans hc, hr.kept hk⟩
theorem RowV.mono {w : World} {B0 B B0' B' : Nat} {val : Value} {l : List Int} (h : RowV w B0 B val l) (h0 : B0' ≤ B0) (h1 : B ≤ B') : RowV w B0' B' val l := by
  obtain ⟨A, C, e1, e2, e2', e2z, e3⟩ := h
  refine ⟨A, C, e1, e2, e2', e2z, fun hl => ?_⟩
  obtain ⟨b, o, hb0, hb, hA, hc⟩ := e3 hl
  exact ⟨b, o, Nat.le_trans h0 hb0, Nat.lt_of_lt_of_le hb h1, hA, hc⟩
theorem RowsAt.mono {w : World} {B0 B B0' B' ab ao n : Nat} {R : Nat → List Int} (h : RowsAt w B0 B ab ao n R) (h0 : B0' ≤ B0) (h1 : B ≤ B') : RowsAt w B0' B' ab ao n R := by
  obtain ⟨e0, e1, e2⟩ := h
  refine ⟨Nat.le_trans h0 e0, Nat.lt_of_lt_of_le e1 h1, fun v hv => ?_⟩
  obtain ⟨val, hc, hr⟩ := e2 v hv
  exact ⟨val, hc, hr.mono h0 h1⟩
theorem RowsAt.below {w w' : World} {B0 B B' ab ao n : Nat} {R : Nat → List Int} (h : RowsAt w B0 B ab ao n R) (hb : Below B' w w') (hB : B ≤ B') : RowsAt w' B0 B ab ao n R :=
  h.kept fun b _ h1 => hb.block b (Nat.lt_of_lt_of_le h1 hB)
theorem RowsAt.congr {w : World} {B0 B ab ao n : Nat} {R R' : Nat → List Int} (h : RowsAt w B0 B ab ao n R) (e : ∀ v, v < n → R v = R' v) : RowsAt w B0 B ab ao n R' :=
  ⟨h.1, h.2.1, fun v hv => by rw [← e v hv]; exact h.2.2 v hv⟩

/-- One header, in the walk's form. -/
theorem RowsAt.head {w : World} {B0 B ab ao n : Nat} {R : Nat → List Int} (h : RowsAt w B0 B ab ao n R) {v : Nat} (hv : v < n) :
    ∃ A C, w.cell? ⟨ab, ao + v, none⟩ = some (.slice A (R v).length C) ∧ (R v).length ≤ 9223372036854775807 := by
  obtain ⟨val, hc, A, C, rfl, h1, h2, _, _⟩ := h.2.2 v hv
  exact ⟨A, C, hc, Nat.le_trans h1 h2⟩
/-- One element, in the walk's form. -/
theorem RowsAt.elem {w : World} {B0 B ab ao n : Nat} {R : Nat → List Int} (h : RowsAt w B0 B ab ao n R) {v i : Nat} (hv : v < n) (hi : i < (R v).length) :
    ∃ b o C z, w.cell? ⟨ab, ao + v, none⟩ = some (.slice (some ⟨b, o, none⟩) (R v).length C) ∧ w.cell? ⟨b, o + i, none⟩ = some (.int .i32 z) ∧ (R v).getD i 0 = z ∧ b < B ∧ B0 ≤ b ∧ (R v).length ≤ 9223372036854775807 ∧ -2147483648 ≤ z ∧ z ≤ 2147483647 := by
  obtain ⟨val, hc, A, C, rfl, h1, h2, hz, h3⟩ := h.2.2 v hv
  obtain ⟨b, o, hb0, hb, rfl, hcell⟩ := h3 (by omega)
  exact ⟨b, o, C, _, hc, hcell i hi, rfl, hb, hb0, Nat.le_trans h1 h2, hz i hi⟩

set_option maxHeartbeats 400000 in
theorem min_any (a b : Int) (w : World) :
    Calls Try.prog 24 #[.int .i64 a, .int .i64 b] w fun e w' => e = .returned (.int .i64 (min a b)) ∧ w' = w := by
  go_enter Try.func24, Try.ntmps24
  go_wp2
  all_goals go_ret
  all_goals exact ⟨ret_int (by omega), rfl⟩

set_option maxHeartbeats 400000 in
theorem mul_any (s L x y : Nat) (w : World) (hl : w.cell? ⟨s, 2, none⟩ = some (.int .i64 L)) (hL : L < 9223372036854775807) (_hx : x ≤ 9223372036854775807) (hy : y ≤ 9223372036854775807) (hy0 : 0 < y) :
    Calls Try.prog 42 #[.pointer (some ⟨s, 0, none⟩), .int .i64 x, .int .i64 y] w fun e w' => e = .returned (.int .i64 (mulS L x y : Nat)) ∧ w' = w := by
  have hc := mul_cap (L + 1) x y hy0
  have h1 : (0 : Int) < (y : Int) := by omega
  have ed : ((L : Int) + 1) / (y : Int) = (((L + 1) / y : Nat) : Int) := by simp
  by_cases h : (L + 1) / y < x
  · have h2 : ((L : Int) + 1) / (y : Int) < (x : Int) := by rw [ed]; omega
    have h3 : mulS L x y = L + 1 := by unfold mulS; omega
    have H3 : Hid (mulS L x y = L + 1) := h3
    clear h3 hc ed
    go_enter Try.func42, Try.ntmps42
    go_wp2
    go_ret
    exact ⟨ret_int (by rw [H3.out]; omega), rfl⟩
  · have h2 : ¬ ((L : Int) + 1) / (y : Int) < (x : Int) := by rw [ed]; omega
    have h3 : mulS L x y = x * y := by unfold mulS; omega
    have H3 : Hid (mulS L x y = x * y) := h3
    have hb : x * y ≤ L + 1 := by omega
    have hb' : (x : Int) * (y : Int) ≤ 9223372036854775807 := by
      have : ((x * y : Nat) : Int) = (x : Int) * (y : Int) := Int.natCast_mul x y
      omega
    have hb0 : 0 ≤ (x : Int) * (y : Int) := by
      have : ((x * y : Nat) : Int) = (x : Int) * (y : Int) := Int.natCast_mul x y
      omega
    clear h3 hc hb ed
    go_enter Try.func42, Try.ntmps42
    go_wp2
    go_ret
    exact ⟨ret_int (by rw [H3.out]; simp), rfl⟩

set_option maxHeartbeats 400000 in
theorem add_any (s L x y : Nat) (w : World) (hl : w.cell? ⟨s, 2, none⟩ = some (.int .i64 L)) (hL : L < 9223372036854775807) (hx : x ≤ L + 1) (hy : y ≤ L + 1) :
    Calls Try.prog 43 #[.pointer (some ⟨s, 0, none⟩), .int .i64 x, .int .i64 y] w fun e w' => e = .returned (.int .i64 (addS L x y : Nat)) ∧ w' = w := by
  by_cases h : (L + 1 : Int) - y < x
  all_goals
    go_enter Try.func43, Try.ntmps43
    go_wp2
    go_ret
    exact ⟨ret_int (by unfold addS; omega), rfl⟩

set_option maxHeartbeats 400000 in
theorem root_yes (a : Option Addr) (n c : Nat) (r : Nat) (w : World) (h : r < n) (hn : n ≤ 9223372036854775807) :
    Calls Try.prog 18 #[.slice a n c, .int .i32 r] w fun e w' => e = .returned (.bool true) ∧ w' = w := by
  have h1 : (0 : Int) < (n : Int) := by omega
  have h2 : (0 : Int) ≤ (r : Int) := by omega
  have h3 : (r : Int) < (n : Int) := by omega
  go_enter Try.func18, Try.ntmps18
  go_wp2
  go_ret
  exact ⟨rfl, rfl⟩

set_option maxHeartbeats 400000 in
theorem root_no (a : Option Addr) (n c : Nat) (r : Int) (w : World) (h : ¬ (0 ≤ r ∧ r < n)) (hn : n ≤ 9223372036854775807) (hr : -2147483648 ≤ r ∧ r < 2147483648) :
    Calls Try.prog 18 #[.slice a n c, .int .i32 r] w fun e w' => e = .returned (.bool false) ∧ w' = w := by
  by_cases h1 : (0 : Int) < (n : Int)
  · by_cases h2 : (0 : Int) ≤ r
    · have h3 : ¬ (r < (n : Int)) := by omega
      go_enter Try.func18, Try.ntmps18
      go_wp2
      go_ret
      exact ⟨rfl, rfl⟩
    · go_enter Try.func18, Try.ntmps18
      go_wp2
      go_ret
      exact ⟨rfl, rfl⟩
  · go_enter Try.func18, Try.ntmps18
    go_wp2
    go_ret
    exact ⟨rfl, rfl⟩

/-- How many elements the first v rows hold. -/
def lensUp (R : Nat → List Int) : Nat → Nat
  | 0 => 0
  | v + 1 => lensUp R v + (R v).length

/-- The call answers a Bool of which φ holds; the world is as it was. (A name: so that the walk's simp leaves it alone.) -/
def BoolPost (φ : Bool → Prop) (w : World) (e : Ending) (w' : World) : Prop := ∃ b, e = .returned (.bool b) ∧ φ b ∧ w' = w
theorem BoolPost.mk {φ : Bool → Prop} {w : World} (b : Bool) (h : φ b) : BoolPost φ w (.returned (.bool b)) w := ⟨b, rfl, h, rfl⟩

def bytesSay (R : Nat → List Int) (n : Nat) (b : Bool) : Prop := b = true → n + lensUp R n ≤ 1048576
theorem bytesSay_no (R : Nat → List Int) (n : Nat) : bytesSay R n false := fun h => Bool.noConfusion h

set_option maxHeartbeats 800000 in
theorem bytes_any (ab ao n c : Nat) (R : Nat → List Int) (B0 B : Nat) (x y : Value) (w : World) (hR : RowsAt w B0 B ab ao n R) (hn : n ≤ 9223372036854775807) :
    Calls Try.prog 16 #[.slice (some ⟨ab, ao, none⟩) n c, x, y] w (BoolPost (bytesSay R n) w) := by
  go_enter Try.func16, Try.ntmps16
  by_cases hn1 : n ≤ 1048576
  · go_wp2
    go_loop [7, 8] (fun t i => ∃ k : Nat, k ≤ n ∧ i = .int .i64 k ∧ n + lensUp R k ≤ 1048576 ∧ t = .int .i64 ((n + lensUp R k : Nat) : Int)) (fun _ i => n - (intOf i).toNat)
    case atStart => exact ⟨0, Nat.zero_le _, rfl, by simp only [lensUp]; omega, by simp [lensUp]⟩
    case round =>
      obtain ⟨k, hk, rfl, hs, rfl⟩ := hrel
      by_cases hlt : k < n
      · obtain ⟨A, C, hc, hl⟩ := hR.head hlt
        have HL : Hid (lensUp R (k + 1) = lensUp R k + (R k).length) := rfl
        generalize lensUp R k = s at *
        generalize (R k).length = l at *
        clear hR
        by_cases h2 : l ≤ 1048576
        · by_cases h3 : n + s + l ≤ 1048576
          · go_wp2
            go_round
            case rel => exact ⟨k + 1, by omega, by go_num, by rw [HL.out]; omega, by rw [HL.out]; go_num⟩
            case measure => simp [intOf]; omega
          · go_wp2
            go_ret
            exact BoolPost.mk false (bytesSay_no R n)
        · go_wp2
          go_ret
          exact BoolPost.mk false (bytesSay_no R n)
      · have e : k = n := by omega
        subst e
        clear hR
        go_wp2
        go_ret
        exact BoolPost.mk true (fun _ => hs)
  · clear hR
    go_wp2
    go_ret
    exact BoolPost.mk false (bytesSay_no R n)

set_option maxHeartbeats 800000 in
theorem big_any (ab ao n c : Nat) (R : Nat → List Int) (B0 B : Nat) (w : World) (hR : RowsAt w B0 B ab ao n R) (hn : n ≤ 9223372036854775807) :
    Calls Try.prog 17 #[.slice (some ⟨ab, ao, none⟩) n c] w (BoolPost (fun _ => True) w) := by
  go_enter Try.func17, Try.ntmps17
  by_cases hn1 : n ≤ 65536
  · go_wp2
    go_loop [3, 4] (fun t i => ∃ k : Nat, k ≤ n ∧ i = .int .i64 k ∧ ∃ z : Int, t = .int .i64 z) (fun _ i => n - (intOf i).toNat)
    case atStart => exact ⟨0, Nat.zero_le _, rfl, _, rfl⟩
    case round =>
      obtain ⟨k, hk, rfl, z, rfl⟩ := hrel
      by_cases hlt : k < n
      · obtain ⟨A, C, hc, hl⟩ := hR.head hlt
        clear hR
        go_wp2
        · go_ret
          exact BoolPost.mk true trivial
        · go_round
          case rel => exact ⟨k + 1, by omega, by go_num, _, rfl⟩
          case measure => simp [intOf]; omega
      · clear hR
        go_wp2
        go_ret
        exact BoolPost.mk _ trivial
  · clear hR
    go_wp2
    go_ret
    exact BoolPost.mk true trivial

def rangeSay (R : Nat → List Int) (n : Nat) (b : Bool) : Prop := b = true → ∀ v, v < n → ∀ i, i < (R v).length → 0 ≤ (R v).getD i 0 ∧ (R v).getD i 0 < n
theorem rangeSay_no (R : Nat → List Int) (n : Nat) : rangeSay R n false := fun h => Bool.noConfusion h
def rangeUp (R : Nat → List Int) (n k : Nat) : Prop := ∀ v, v < k → ∀ i, i < (R v).length → 0 ≤ (R v).getD i 0 ∧ (R v).getD i 0 < n
def rangeIn (R : Nat → List Int) (n k j : Nat) : Prop := ∀ i, i < j → 0 ≤ (R k).getD i 0 ∧ (R k).getD i 0 < n

set_option maxHeartbeats 800000 in
theorem range_any (ab ao n c : Nat) (R : Nat → List Int) (B0 B : Nat) (w : World) (hR : RowsAt w B0 B ab ao n R) (hn : n ≤ 1048576) :
    Calls Try.prog 19 #[.slice (some ⟨ab, ao, none⟩) n c] w (BoolPost (rangeSay R n) w) := by
  go_enter Try.func19, Try.ntmps19
  go_wp2
  go_loop [4] (fun i => ∃ k : Nat, k ≤ n ∧ i = .int .i64 k ∧ rangeUp R n k) (fun i => n - (intOf i).toNat)
  case atStart => exact ⟨0, Nat.zero_le _, rfl, fun v hv => absurd hv (Nat.not_lt_zero _)⟩
  case round =>
    obtain ⟨k, hk, rfl, hup⟩ := hrel
    by_cases hlt : k < n
    · go_wp2
      go_loop [5] (fun i => ∃ j : Nat, j ≤ (R k).length ∧ i = .int .i64 j ∧ rangeIn R n k j) (fun i => (R k).length - (intOf i).toNat)
      case atStart => exact ⟨0, Nat.zero_le _, rfl, fun v hv => absurd hv (Nat.not_lt_zero _)⟩
      case round =>
        obtain ⟨j, hj, rfl, hin⟩ := hrel
        by_cases hjl : j < (R k).length
        · obtain ⟨b, o, C, z, hc, hz, e, _, _, hl, hz1, hz2⟩ := hR.elem hlt hjl
          have E : Hid ((R k).getD j 0 = z) := e
          clear hR e
          by_cases h0 : z < 0
          · go_wp2
            go_ret
            exact BoolPost.mk false (rangeSay_no R n)
          · by_cases h1 : z < n
            · go_wp2
              go_round
              case rel =>
                refine ⟨j + 1, by omega, by go_num, fun i hi => ?_⟩
                by_cases e : i = j
                · subst e; rw [E.out]; omega
                · exact hin i (by omega)
              case measure => simp [intOf]; omega
            · go_wp2
              go_ret
              exact BoolPost.mk false (rangeSay_no R n)
        · obtain ⟨A, C, hc, hl⟩ := hR.head hlt
          have e : j = (R k).length := by omega
          have E : Hid (j = (R k).length) := e
          clear hR e
          go_wp2
          go_round
          case rel =>
            refine ⟨k + 1, by omega, by go_num, fun v hv i hi => ?_⟩
            by_cases e : v = k
            · subst e; exact hin i (by rw [E.out]; exact hi)
            · exact hup v (by omega) i hi
          case measure => simp [intOf]; omega
    · have e : k = n := by omega
      subst e
      clear hR
      go_wp2
      go_ret
      exact BoolPost.mk true (fun _ => hup)

def loopSay (R : Nat → List Int) (n : Nat) (b : Bool) : Prop := b = false → ∀ v, v < n → ∀ i, i < (R v).length → (R v).getD i 0 ≠ v
theorem loopSay_yes (R : Nat → List Int) (n : Nat) : loopSay R n true := fun h => Bool.noConfusion h
def loopUp (R : Nat → List Int) (k : Nat) : Prop := ∀ v, v < k → ∀ i, i < (R v).length → (R v).getD i 0 ≠ v
def loopIn (R : Nat → List Int) (k j : Nat) : Prop := ∀ i, i < j → (R k).getD i 0 ≠ k

set_option maxHeartbeats 800000 in
theorem self_any (ab ao n c : Nat) (R : Nat → List Int) (B0 B : Nat) (w : World) (hR : RowsAt w B0 B ab ao n R) (hn : n ≤ 1048576) :
    Calls Try.prog 20 #[.slice (some ⟨ab, ao, none⟩) n c] w (BoolPost (loopSay R n) w) := by
  go_enter Try.func20, Try.ntmps20
  go_wp2
  go_loop [3] (fun i => ∃ k : Nat, k ≤ n ∧ i = .int .i64 k ∧ loopUp R k) (fun i => n - (intOf i).toNat)
  case atStart => exact ⟨0, Nat.zero_le _, rfl, fun v hv => absurd hv (Nat.not_lt_zero _)⟩
  case round =>
    obtain ⟨k, hk, rfl, hup⟩ := hrel
    by_cases hlt : k < n
    · go_wp2
      go_loop [4] (fun i => ∃ j : Nat, j ≤ (R k).length ∧ i = .int .i64 j ∧ loopIn R k j) (fun i => (R k).length - (intOf i).toNat)
      case atStart => exact ⟨0, Nat.zero_le _, rfl, fun v hv => absurd hv (Nat.not_lt_zero _)⟩
      case round =>
        obtain ⟨j, hj, rfl, hin⟩ := hrel
        by_cases hjl : j < (R k).length
        · obtain ⟨b, o, C, z, hc, hz, e, _, _, hl, hz1, hz2⟩ := hR.elem hlt hjl
          have E : Hid ((R k).getD j 0 = z) := e
          clear hR e
          by_cases h0 : z = k
          · have h0' : (z == (k : Int)) = true := by simp [h0]
            have H0 : Hid (z = k) := h0
            clear h0
            go_wp2
            go_ret
            exact BoolPost.mk true (loopSay_yes R n)
          · have h0' : (z == (k : Int)) = false := by simp [h0]
            go_wp2
            go_round
            case rel =>
              refine ⟨j + 1, by omega, by go_num, fun i hi => ?_⟩
              by_cases e : i = j
              · subst e; rw [E.out]; exact h0
              · exact hin i (by omega)
            case measure => simp [intOf]; omega
        · obtain ⟨A, C, hc, hl⟩ := hR.head hlt
          have e : j = (R k).length := by omega
          have E : Hid (j = (R k).length) := e
          clear hR e
          go_wp2
          go_round
          case rel =>
            refine ⟨k + 1, by omega, by go_num, fun v hv i hi => ?_⟩
            by_cases e : v = k
            · subst e; exact hin i (by rw [E.out]; exact hi)
            · exact hup v (by omega) i hi
          case measure => simp [intOf]; omega
    · have e : k = n := by omega
      subst e
      clear hR
      go_wp2
      go_ret
      exact BoolPost.mk false (fun _ => hup)
end Go.Proofs.Qxb6000686a
