/-
  The seat's own text: the two laws, walked out of the contracts.
-/
import Derived.Test.Qxb6000686aSteps
namespace Go.Proofs.Qxb6000686a
open Go.RowKit Go.Deep Plain

set_option maxHeartbeats 800000 in
theorem bytes4_any (ab ao n c : Nat) (R : Nat → List Int) (B0 B : Nat) (x y z : Value) (w : World) (hR : RowsAt w B0 B ab ao n R) (hn : n ≤ 9223372036854775807) :
    Calls Try.prog 23 #[.slice (some ⟨ab, ao, none⟩) n c, x, y, z] w (BoolPost (bytesSay R n) w) := by
  go_enter Try.func23, Try.ntmps23
  by_cases hn1 : n ≤ 1048576
  · go_wp2
    go_loop [9, 10] (fun t i => ∃ k : Nat, k ≤ n ∧ i = .int .i64 k ∧ n + lensUp R k ≤ 1048576 ∧ t = .int .i64 ((n + lensUp R k : Nat) : Int)) (fun _ i => n - (intOf i).toNat)
    case atStart => exact ⟨0, Nat.zero_le _, rfl, by simp only [lensUp]; omega, by simp [lensUp]⟩
    case round =>
      obtain ⟨k, hk, rfl, hs, rfl⟩ := hrel
      by_cases hlt : k < n
      · obtain ⟨A, C, hc, hl⟩ := hR.head hlt
        have HL : Hid (lensUp R (k + 1) = lensUp R k + (R k).length) := rfl
        generalize lensUp R k = s at *
        generalize (R k).length = l at *
        clear hR
        by_cases h2 : l ≤ 1048576
        · by_cases h3 : n + s + l ≤ 1048576
          · go_wp2
            go_round
            case rel => exact ⟨k + 1, by omega, by go_num, by rw [HL.out]; omega, by rw [HL.out]; go_num⟩
            case measure => simp [intOf]; omega
          · go_wp2
            go_ret
            exact BoolPost.mk false (bytesSay_no R n)
        · go_wp2
          go_ret
          exact BoolPost.mk false (bytesSay_no R n)
      · have e : k = n := by omega
        subst e
        clear hR
        go_wp2
        go_ret
        exact BoolPost.mk true (fun _ => hs)
  · clear hR
    go_wp2
    go_ret
    exact BoolPost.mk false (bytesSay_no R n)

/-! ### Without a row -/
set_option maxHeartbeats 400000 in
theorem bytes_zero (a : Option Addr) (c : Nat) (x y : Value) (w : World) :
    Calls Try.prog 16 #[.slice a 0 c, x, y] w (BoolPost (fun _ => True) w) := by
  go_enter Try.func16, Try.ntmps16
  go_wp2
  go_loop [7, 8] (fun t i => t = .int .i64 0 ∧ i = .int .i64 0) (fun _ _ => 0)
  case atStart => exact ⟨rfl, rfl⟩
  case round =>
    obtain ⟨rfl, rfl⟩ := hrel
    go_wp2
    go_ret
    exact BoolPost.mk true trivial
set_option maxHeartbeats 400000 in
theorem bytes4_zero (a : Option Addr) (c : Nat) (x y z : Value) (w : World) :
    Calls Try.prog 23 #[.slice a 0 c, x, y, z] w (BoolPost (fun _ => True) w) := by
  go_enter Try.func23, Try.ntmps23
  go_wp2
  go_loop [9, 10] (fun t i => t = .int .i64 0 ∧ i = .int .i64 0) (fun _ _ => 0)
  case atStart => exact ⟨rfl, rfl⟩
  case round =>
    obtain ⟨rfl, rfl⟩ := hrel
    go_wp2
    go_ret
    exact BoolPost.mk true trivial
set_option maxHeartbeats 400000 in
theorem big_zero (a : Option Addr) (c : Nat) (w : World) :
    Calls Try.prog 17 #[.slice a 0 c] w (BoolPost (fun _ => True) w) := by
  go_enter Try.func17, Try.ntmps17
  go_wp2
  go_loop [3, 4] (fun t i => t = .int .i64 0 ∧ i = .int .i64 0) (fun _ _ => 0)
  case atStart => exact ⟨rfl, rfl⟩
  case round =>
    obtain ⟨rfl, rfl⟩ := hrel
    go_wp2
    go_ret
    exact BoolPost.mk _ trivial

def Yes (w : World) (e : Ending) (w' : World) : Prop := e = .returned (.bool true) ∧ Below w.heap.size w w'
theorem Yes.mk {w w' : World} (h : Below w.heap.size w w') : Yes w (.returned (.bool true)) w' := ⟨rfl, h⟩

set_option maxHeartbeats 800000 in
theorem zero_empty (a : Option Addr) (c : Nat) (r l : Int) (w : World) (hr : -2147483648 ≤ r ∧ r < 2147483648) (hl : -9223372036854775808 ≤ l ∧ l ≤ 9223372036854775807) :
    Calls Try.prog 4 #[.slice a 0 c, .int .i32 r, .int .i64 l] w (Yes w) := by
  go_enter Try.func4, Try.ntmps4
  go_wp2_with fail
  refine (bytes_zero a c _ _ w).mono ?_
  rintro e w' ⟨b, rfl, _, rfl⟩
  cases b with
  | false => go_wp2_with fail; go_ret; exact Yes.mk (Below.refl _ _)
  | true =>
  go_wp2_with fail
  refine (big_zero a c _).mono ?_
  rintro e w' ⟨b, rfl, _, rfl⟩
  cases b with
  | true => go_wp2_with fail; go_ret; exact Yes.mk (Below.refl _ _)
  | false =>
  by_cases h1 : l < 0
  · go_wp2_with fail
    go_ret
    exact Yes.mk (Below.refl _ _)
  · by_cases h2 : 9223372036854775807 ≤ l
    · go_wp2_with fail
      go_ret
      exact Yes.mk (Below.refl _ _)
    · go_wp2_with fail
      refine (root_no a 0 c r _ (by omega) (by omega) hr).mono ?_
      rintro e w' ⟨rfl, rfl⟩
      go_wp2_with fail
      go_ret
      exact Yes.mk (Below.refl _ _)

/-! ### The rows as natural numbers -/
def nats (R : Nat → List Int) : Nat → List Nat := fun v => (R v).map Int.toNat
theorem ints_nats (R : Nat → List Int) (v : Nat) (h : ∀ i, i < (R v).length → 0 ≤ (R v).getD i 0) : ints (nats R) v = R v := by
  apply List.ext_getElem?
  intro i
  by_cases hi : i < (R v).length
  · have := h i hi
    simp [ints, nats, hi] at this ⊢
    omega
  · simp [ints, nats, hi]
theorem nats_len (R : Nat → List Int) (v : Nat) : (nats R v).length = (R v).length := by simp [nats]
theorem nats_lt (R : Nat → List Int) (n v : Nat) (h : ∀ i, i < (R v).length → 0 ≤ (R v).getD i 0 ∧ (R v).getD i 0 < n) : ∀ x ∈ nats R v, x < n := by
  intro x hx
  obtain ⟨i, hi, rfl⟩ := List.mem_iff_getElem.1 hx
  rw [nats_len] at hi
  have := h i hi
  simp [nats, hi] at this ⊢
  omega
theorem nats_self (R : Nat → List Int) (v : Nat) (h0 : ∀ i, i < (R v).length → 0 ≤ (R v).getD i 0) (h : ∀ i, i < (R v).length → (R v).getD i 0 ≠ v) : ¬ v ∈ nats R v := by
  intro hx
  obtain ⟨i, hi, e⟩ := List.mem_iff_getElem.1 hx
  rw [nats_len] at hi
  have h1 := h i hi
  have h2 := h0 i hi
  simp [nats, hi] at h1 h2 e
  omega
theorem edgesUp_nats (R : Nat → List Int) (v : Nat) : edgesUp (nats R) v = lensUp R v := by
  induction v with
  | zero => rfl
  | succ v ih => rw [edgesUp_succ, ih, nats_len]; rfl
theorem rev_len (E : Nat → List Nat) (n w : Nat) : (rev E n w).length ≤ edgesUp E n := sel_le _ _
theorem rev_lt (E : Nat → List Nat) (n v : Nat) : ∀ x ∈ rev E n v, x < n := fun _ hx => ((mem_rev _ _ _ _).1 hx).1
theorem row_le (E : Nat → List Nat) (v n : Nat) (h : v < n) : (E v).length ≤ edgesUp E n := by
  have := edgesUp_mono E (v + 1) n h
  rw [edgesUp_succ] at this
  omega

theorem new_int (ab ao c bb bo d n L : Nat) (l : Int) (hl : l = (L : Int)) (R F : Nat → List Int) (B : Nat) (w : World) (hR : RowsAt w 0 B ab ao n R) (hF : RowsAt w 0 B bb bo n F) (hB : B ≤ w.heap.size)
    (hn : n ≤ 1048576) (hRl : ∀ v, v < n → (R v).length ≤ 1048576) (hFl : ∀ v, v < n → (F v).length ≤ 1048576) :
    Calls Try.prog 15 #[.slice (some ⟨ab, ao, none⟩) n c, .slice (some ⟨bb, bo, none⟩) n d, .int .i64 l] w (StepPost n R F L w) := by
  subst hl
  exact new_any ab ao c bb bo d n L R F B w hR hF hB hn hRl hFl

/-- ZZCliqueSteps over a fresh stepBound. -/
theorem clique_any (sb n L r : Nat) (E F : Nat → List Nat) (w : World) (h : StepB w sb n (ints E) (ints F) L) (hr : r < n) (hn : n ≤ 1048576) (hE : ∀ v, v < n → ∀ x ∈ E v, x < n) (hF : ∀ v, v < n → ∀ x ∈ F v, x < n) (hs : ∀ v, v < n → ¬ v ∈ E v)
    (hEl : ∀ v, v < n → (E v).length ≤ 1048576) (hFl : ∀ v, v < n → (F v).length ≤ 1048576) (hL : L < 9223372036854775807) :
    Calls Try.prog 14 #[.pointer (some ⟨sb, 0, none⟩), .int .i32 r] w fun e w' => e = .returned (.int .i64 (steps E F r L : Nat)) ∧ Below sb w w' := by
  obtain ⟨eb, eo, wb, wo, Q, ba, wa, lf, pa, le, h1, h2, h3, h4, h5, h6, h7, h8, h9, h10⟩ := h
  have hC : Cq w w sb n Q ba wa eb eo wb wo lf pa le E F L (.slice none 0 0) 0 0 (fun _ => 0) (fun _ => 0) := ⟨Below.refl _ _, h1, h2, h3, h4, h5, h9, h10⟩
  have KEY : Hid (Calls Try.prog 39 #[.pointer (some ⟨sb, 0, none⟩), .int .i32 r] w fun e w' => e = .returned (.int .i64 (steps E F r L : Nat)) ∧ Below sb w w') := clique_walk sb n Q ba wa eb eo wb wo lf pa le E F L r w hC h6 h7 h8 hr hn hE hF hs hEl hFl hL
  clear h1 h2 h3 h4 h5 h6 h7 h8 h9 h10 hC hE hF hs hEl hFl
  go_enter Try.func14, Try.ntmps14
  go_wp2_with fail
  refine KEY.out.mono ?_
  rintro e w' ⟨rfl, hb⟩
  go_wp2_with fail
  go_ret
  exact ⟨rfl, hb⟩

/-! ### The law's own word -/
def mutl (E : Nat → List Nat) (r : Nat) (l : List Nat) : Bool := l.any fun w => (E w).contains r
theorem mutl_snoc (E : Nat → List Nat) (r : Nat) (l : List Nat) (w : Nat) : mutl E r (l ++ [w]) = (mutl E r l || (E w).contains r) := by simp [mutl]
theorem take_contains (l : List Nat) (q j : Nat) (h : j < l.length) : (l.take (j + 1)).contains q = ((l.take j).contains q || (q == l[j])) := by
  rw [List.take_succ_eq_append_getElem h, Bool.eq_iff_iff]
  simp only [List.contains_iff_mem, List.mem_append, List.mem_singleton, Bool.or_eq_true, beq_iff_eq]
theorem law_zero (E : Nat → List Nat) (n r L : Nat) (hr : r < n) (hE : ∀ v, v < n → ∀ x ∈ E v, x < n) : (((steps E (rev E n) r L : Nat) : Int) == 0) = !mutl E r (E r) := by
  have h := steps_zero E (rev E n) r L
  by_cases hz : steps E (rev E n) r L = 0
  · have h1 := h.1 hz
    rw [hz]
    have h2 : mutl E r (E r) = false := by
      unfold mutl
      rw [List.any_eq_false]
      intro c hc hh
      refine h1 c hc ((mem_rev _ _ _ _).2 ⟨hE r hr c hc, ?_⟩)
      simpa using hh
    rw [h2]; rfl
  · have h1 : ¬ ∀ c ∈ E r, ¬ c ∈ rev E n r := fun hh => hz (h.2 hh)
    have h2 : mutl E r (E r) = true := by
      rcases Bool.eq_false_or_eq_true (mutl E r (E r)) with h3 | h3
      · exact h3
      · refine absurd (fun c hc hF => ?_) h1
        unfold mutl at h3
        rw [List.any_eq_false] at h3
        exact h3 c hc (by simpa using ((mem_rev _ _ _ _).1 hF).2)
    rw [h2]
    simp [hz]

set_option maxHeartbeats 3200000 in
set_option maxRecDepth 100000 in
theorem zero_some (ab ao n c : Nat) (R : Nat → List Int) (r l : Int) (w : World) (hR : RowsAt w 0 w.heap.size ab ao n R) (h0 : 0 < n) (hn : n ≤ 9223372036854775807) (hr : -2147483648 ≤ r ∧ r < 2147483648) (hl : -9223372036854775808 ≤ l ∧ l ≤ 9223372036854775807) :
    Calls Try.prog 4 #[.slice (some ⟨ab, ao, none⟩) n c, .int .i32 r, .int .i64 l] w (Yes w) := by
  go_enter Try.func4, Try.ntmps4
  go_wp2_with fail
  refine (bytes_any ab ao n c R 0 w.heap.size _ _ w hR hn).mono ?_
  rintro e w' ⟨b, rfl, hb, rfl⟩
  cases b with
  | false => go_wp2_with fail; go_ret; exact Yes.mk (Below.refl _ _)
  | true =>
  have hsum := hb rfl
  clear hb
  go_wp2_with fail
  refine (big_any ab ao n c R 0 _ _ hR hn).mono ?_
  rintro e w' ⟨b, rfl, _, rfl⟩
  cases b with
  | true => go_wp2_with fail; go_ret; exact Yes.mk (Below.refl _ _)
  | false =>
  by_cases h1 : l < 0
  · go_wp2_with fail
    go_ret
    exact Yes.mk (Below.refl _ _)
  by_cases h2 : 9223372036854775807 ≤ l
  · go_wp2_with fail
    go_ret
    exact Yes.mk (Below.refl _ _)
  by_cases h3 : 0 ≤ r ∧ r < n
  · obtain ⟨q, rfl⟩ := Int.eq_ofNat_of_zero_le h3.1
    have hq : q < n := by omega
    go_wp2_with fail
    refine (root_yes _ n c q _ hq hn).mono ?_
    rintro e w' ⟨rfl, rfl⟩
    go_wp2_with fail
    refine (range_any ab ao n c R 0 _ _ hR (by omega)).mono ?_
    rintro e w' ⟨b, rfl, hrange, rfl⟩
    cases b with
    | false => go_wp2_with fail; go_ret; exact Yes.mk (Below.refl _ _)
    | true =>
    have hrange' := hrange rfl
    have HRG : Hid (∀ v, v < n → ∀ i, i < (R v).length → 0 ≤ (R v).getD i 0 ∧ (R v).getD i 0 < n) := hrange'
    clear hrange hrange'
    go_wp2_with fail
    refine (self_any ab ao n c R 0 _ _ hR (by omega)).mono ?_
    rintro e w' ⟨b, rfl, hself, rfl⟩
    cases b with
    | true => go_wp2_with fail; go_ret; exact Yes.mk (Below.refl _ _)
    | false =>
    have HSF : Hid (∀ v, v < n → ∀ i, i < (R v).length → (R v).getD i 0 ≠ v) := hself rfl
    clear hself
    go_wp2_with fail
    refine (clone_any ab ao n c R _ _ hR (Nat.le_refl _) hsum).mono ?_
    rintro e w1 ⟨ab1, ao1, rfl, hR1, hbel1⟩
    have hE1 : RowsAt w1 0 w1.heap.size ab1 ao1 n (ints (nats R)) := (hR1.mono (Nat.zero_le _) (Nat.le_refl _)).congr fun v hv => (ints_nats R v fun i hi => (HRG.out v hv i hi).1).symm
    have HEN : Hid (∀ v, v < n → ∀ x ∈ nats R v, x < n) := fun v hv => nats_lt R n v (HRG.out v hv)
    have HES : Hid (∀ v, v < n → ¬ v ∈ nats R v) := fun v hv => nats_self R v (fun i hi => (HRG.out v hv i hi).1) (HSF.out v hv)
    have HSM : n + edgesUp (nats R) n ≤ 1048576 := by rw [edgesUp_nats]; exact hsum
    clear hR hR1 HRG HSF hsum h3
    generalize nats R = E at *
    go_wp2_with fail
    have hlq := row_le E q n hq
    go_loop [7, 8] (fun t s => ∃ i : Nat, i ≤ (E q).length ∧ s = .int .i64 i ∧ t = .bool (mutl E q ((E q).take i))) (fun _ s => (E q).length - (intOf s).toNat)
    case atStart => exact ⟨0, Nat.zero_le _, rfl, rfl⟩
    case round =>
      obtain ⟨i, hi, rfl, rfl⟩ := hrel
      by_cases hil : i < (E q).length
      · obtain ⟨b, o, C, z, hc, hcz, e, _, _, hlen, _, _⟩ := hE1.elem hq (by rw [ints_len]; exact hil)
        rw [ints_getD E q i hil] at e
        rw [ints_len] at hc hlen
        subst e
        have hxn := HEN.out q hq _ (List.getElem_mem hil)
        have HT : Hid (mutl E q ((E q).take (i + 1)) = (mutl E q ((E q).take i) || (E (E q)[i]).contains q)) := by
          show _ = _
          rw [List.take_succ_eq_append_getElem hil, mutl_snoc]
        generalize (E q)[i] = x at *
        generalize mutl E q ((E q).take i) = mm at *
        have hlx := row_le E x n hxn
        go_wp2
        go_loop [7, 10] (fun t s => ∃ j : Nat, j ≤ (E x).length ∧ s = .int .i64 j ∧ t = .bool (mm || ((E x).take j).contains q)) (fun _ s => (E x).length - (intOf s).toNat)
        case atStart => exact ⟨0, Nat.zero_le _, rfl, by simp⟩
        case round =>
          obtain ⟨j, hj, rfl, rfl⟩ := hrel
          by_cases hjl : j < (E x).length
          · obtain ⟨b', o', C', z', hc', hcz', e', _, _, hlen', _, _⟩ := hE1.elem hxn (by rw [ints_len]; exact hjl)
            rw [ints_getD E x j hjl] at e'
            rw [ints_len] at hc' hlen'
            subst e'
            have HT2 : Hid (((E x).take (j + 1)).contains q = (((E x).take j).contains q || (q == (E x)[j]))) := by
              exact take_contains _ _ _ hjl
            generalize (E x)[j] = y at *
            generalize ((E x).take j).contains q = cj at *
            clear hE1 hc hcz
            by_cases hy : y = q
            · have hy1 : (((y : Nat) : Int) == (q : Int)) = true := by simp [hy]
              have HR : Hid ((mm || ((E x).take (j + 1)).contains q) = true) := by
                show _ = _
                rw [HT2.out, hy]; simp
              clear hy HT2
              go_wp2
              go_round
              case rel => exact ⟨j + 1, by omega, by go_num, by rw [HR.out]⟩
              case measure => simp [intOf]; omega
            · have hy1 : (((y : Nat) : Int) == (q : Int)) = false := by simp; omega
              have HR : Hid ((mm || ((E x).take (j + 1)).contains q) = (mm || cj)) := by
                show _ = _
                rw [HT2.out]
                have : (q == y) = false := by simp; omega
                rw [this]; simp
              clear hy HT2
              go_wp2
              go_round
              case rel => exact ⟨j + 1, by omega, by go_num, by rw [HR.out]⟩
              case measure => simp [intOf]; omega
          · obtain ⟨A', C', hc', hlen'⟩ := hE1.head hxn
            rw [ints_len] at hc' hlen'
            have HR : Hid (mutl E q ((E q).take (i + 1)) = (mm || ((E x).take j).contains q)) := by
              show _ = _
              rw [HT.out, List.take_of_length_le (by omega)]
            clear hE1 hc hcz HT
            go_wp2
            go_round
            case rel => exact ⟨i + 1, by omega, by go_num, by rw [HR.out]⟩
            case measure => simp [intOf]; omega
      · obtain ⟨A, C, hc, hlen⟩ := hE1.head hq
        rw [ints_len] at hc hlen
        have hfull : (E q).take i = E q := List.take_of_length_le (by omega)
        rw [hfull]
        obtain ⟨L, hLl⟩ := Int.eq_ofNat_of_zero_le (show 0 ≤ l by omega)
        have HLl : Hid (l = (L : Int)) := hLl
        have hL : L < 9223372036854775807 := by omega
        have HL : Hid (L < 9223372036854775807) := hL
        clear hLl hL
        have HLAW : Hid ((((steps E (rev E n) q L : Nat) : Int) == 0) = !mutl E q (E q)) := law_zero E n q L hq HEN.out
        have HE1 : Hid (RowsAt w1 0 w1.heap.size ab1 ao1 n (ints E)) := hE1
        have hsl := steps_le E (rev E n) q L
        generalize mutl E q (E q) = mf at *
        clear hE1 hfull
        go_wp2_with fail
        refine (rev_any ab1 ao1 n n E w1.heap.size w1 HE1.out (Nat.le_refl _) HSM HEN.out).mono ?_
        rintro e w2 ⟨bb, bo, rfl, hF2, hbel2⟩
        go_wp2_with fail
        have hE2 : RowsAt w2 0 w2.heap.size ab1 ao1 n (ints E) := (HE1.out.below hbel2 (Nat.le_refl _)).mono (Nat.le_refl _) hbel2.size
        have hF2' : RowsAt w2 0 w2.heap.size bb bo n (ints (rev E n)) := hF2.mono (Nat.zero_le _) (Nat.le_refl _)
        have hEl : ∀ v, v < n → (E v).length ≤ 1048576 := fun v hv => by have := row_le E v n hv; omega
        have hFl : ∀ v, v < n → (rev E n v).length ≤ 1048576 := fun v _ => by have := rev_len E n v; omega
        refine (new_int ab1 ao1 n bb bo n n L l HLl.out (ints E) (ints (rev E n)) w2.heap.size w2 hE2 hF2' (Nat.le_refl _) (by omega) (fun v hv => by rw [ints_len]; exact hEl v hv) (fun v hv => by rw [ints_len]; exact hFl v hv)).mono ?_
        rintro e w3 ⟨sb, rfl, hsb, hbel3, hSB⟩
        have HK : Hid (Calls Try.prog 14 #[.pointer (some ⟨sb, 0, none⟩), .int .i32 q] w3 fun e w' => e = .returned (.int .i64 (steps E (rev E n) q L : Nat)) ∧ Below sb w3 w') :=
          clique_any sb n L q E (rev E n) w3 hSB hq (by omega) HEN.out (fun v _ => rev_lt E n v) HES.out hEl hFl HL.out
        clear hE2 hF2 hF2' hEl hFl hSB HE1 HEN HES
        go_wp2_with fail
        refine HK.out.mono ?_
        rintro e w4 ⟨rfl, hbel4⟩
        have HY : ∀ w0 : World, Below w0.heap.size w0 w1 → Below w0.heap.size w0 w4 := fun w0 h => h.trans (((hbel2.mono h.size).trans (hbel3.mono (Nat.le_trans h.size hbel2.size))).trans (hbel4.mono (Nat.le_trans (Nat.le_trans h.size hbel2.size) hsb)))
        have HZ := HY _ hbel1
        clear HK hbel2 hbel3 hbel4 HY hbel1
        generalize steps E (rev E n) q L = st at *
        have hlaw := HLAW.out
        have g1 : ¬ ((st : Nat) : Int) < 0 := by omega
        have g2 : ¬ (l + 1 < (st : Int)) := by have := HLl.out; omega
        clear hsl
        cases mf with
        | true =>
          have hz : (((st : Nat) : Int) == 0) = false := by rw [hlaw]; rfl
          clear hlaw HLAW
          go_wp2_with fail
          go_ret
          exact Yes.mk HZ
        | false =>
          have hz : (((st : Nat) : Int) == 0) = true := by rw [hlaw]; rfl
          clear hlaw HLAW
          go_wp2_with fail
          go_ret
          exact Yes.mk HZ
  · go_wp2_with fail
    refine (root_no _ n c r _ h3 hn hr).mono ?_
    rintro e w' ⟨rfl, rfl⟩
    go_wp2_with fail
    go_ret
    exact Yes.mk (Below.refl _ _)

set_option maxHeartbeats 800000 in
theorem caps_empty (a : Option Addr) (c : Nat) (r l h : Int) (w : World) (hr : -2147483648 ≤ r ∧ r < 2147483648) (hl : -9223372036854775808 ≤ l ∧ l ≤ 9223372036854775807) (hh : -9223372036854775808 ≤ h ∧ h ≤ 9223372036854775807) :
    Calls Try.prog 5 #[.slice a 0 c, .int .i32 r, .int .i64 l, .int .i64 h] w (Yes w) := by
  go_enter Try.func5, Try.ntmps5
  go_wp2_with fail
  refine (bytes4_zero a c _ _ _ w).mono ?_
  rintro e w' ⟨b, rfl, _, rfl⟩
  cases b with
  | false => go_wp2_with fail; go_ret; exact Yes.mk (Below.refl _ _)
  | true =>
  go_wp2_with fail
  refine (big_zero a c _).mono ?_
  rintro e w' ⟨b, rfl, _, rfl⟩
  cases b with
  | true => go_wp2_with fail; go_ret; exact Yes.mk (Below.refl _ _)
  | false =>
  by_cases h1 : l < 0
  · go_wp2_with fail
    go_ret
    exact Yes.mk (Below.refl _ _)
  by_cases h12 : h < l
  · go_wp2_with fail
    go_ret
    exact Yes.mk (Below.refl _ _)
  by_cases h2 : 9223372036854775807 ≤ h
  · go_wp2_with fail
    go_ret
    exact Yes.mk (Below.refl _ _)
  · go_wp2_with fail
    refine (root_no a 0 c r _ (by omega) (by omega) hr).mono ?_
    rintro e w' ⟨rfl, rfl⟩
    go_wp2_with fail
    go_ret
    exact Yes.mk (Below.refl _ _)

set_option maxHeartbeats 3200000 in
set_option maxRecDepth 100000 in
theorem caps_some (ab ao n c : Nat) (R : Nat → List Int) (r l h : Int) (w : World) (hR : RowsAt w 0 w.heap.size ab ao n R) (hn : n ≤ 9223372036854775807) (hr : -2147483648 ≤ r ∧ r < 2147483648) (hl : -9223372036854775808 ≤ l ∧ l ≤ 9223372036854775807) (hh : -9223372036854775808 ≤ h ∧ h ≤ 9223372036854775807) :
    Calls Try.prog 5 #[.slice (some ⟨ab, ao, none⟩) n c, .int .i32 r, .int .i64 l, .int .i64 h] w (Yes w) := by
  go_enter Try.func5, Try.ntmps5
  go_wp2_with fail
  refine (bytes4_any ab ao n c R 0 w.heap.size _ _ _ w hR hn).mono ?_
  rintro e w' ⟨b, rfl, hb, rfl⟩
  cases b with
  | false => go_wp2_with fail; go_ret; exact Yes.mk (Below.refl _ _)
  | true =>
  have hsum := hb rfl
  clear hb
  go_wp2_with fail
  refine (big_any ab ao n c R 0 _ _ hR hn).mono ?_
  rintro e w' ⟨b, rfl, _, rfl⟩
  cases b with
  | true => go_wp2_with fail; go_ret; exact Yes.mk (Below.refl _ _)
  | false =>
  by_cases h1 : l < 0
  · go_wp2_with fail
    go_ret
    exact Yes.mk (Below.refl _ _)
  by_cases h12 : h < l
  · go_wp2_with fail
    go_ret
    exact Yes.mk (Below.refl _ _)
  by_cases h2 : 9223372036854775807 ≤ h
  · go_wp2_with fail
    go_ret
    exact Yes.mk (Below.refl _ _)
  by_cases h3 : 0 ≤ r ∧ r < n
  · obtain ⟨q, rfl⟩ := Int.eq_ofNat_of_zero_le h3.1
    have hq : q < n := by omega
    go_wp2_with fail
    refine (root_yes _ n c q _ hq hn).mono ?_
    rintro e w' ⟨rfl, rfl⟩
    go_wp2_with fail
    refine (range_any ab ao n c R 0 _ _ hR (by omega)).mono ?_
    rintro e w' ⟨b, rfl, hrange, rfl⟩
    cases b with
    | false => go_wp2_with fail; go_ret; exact Yes.mk (Below.refl _ _)
    | true =>
    have hrange' := hrange rfl
    have HRG : Hid (∀ v, v < n → ∀ i, i < (R v).length → 0 ≤ (R v).getD i 0 ∧ (R v).getD i 0 < n) := hrange'
    clear hrange hrange'
    go_wp2_with fail
    refine (self_any ab ao n c R 0 _ _ hR (by omega)).mono ?_
    rintro e w' ⟨b, rfl, hself, rfl⟩
    cases b with
    | true => go_wp2_with fail; go_ret; exact Yes.mk (Below.refl _ _)
    | false =>
    have HSF : Hid (∀ v, v < n → ∀ i, i < (R v).length → (R v).getD i 0 ≠ v) := hself rfl
    clear hself
    go_wp2_with fail
    refine (clone_any ab ao n c R _ _ hR (Nat.le_refl _) hsum).mono ?_
    rintro e w1 ⟨ab1, ao1, rfl, hR1, hbel1⟩
    have hE1 : RowsAt w1 0 w1.heap.size ab1 ao1 n (ints (nats R)) := (hR1.mono (Nat.zero_le _) (Nat.le_refl _)).congr fun v hv => (ints_nats R v fun i hi => (HRG.out v hv i hi).1).symm
    have HEN : Hid (∀ v, v < n → ∀ x ∈ nats R v, x < n) := fun v hv => nats_lt R n v (HRG.out v hv)
    have HES : Hid (∀ v, v < n → ¬ v ∈ nats R v) := fun v hv => nats_self R v (fun i hi => (HRG.out v hv i hi).1) (HSF.out v hv)
    have HSM : n + edgesUp (nats R) n ≤ 1048576 := by rw [edgesUp_nats]; exact hsum
    clear hR hR1 HRG HSF hsum h3
    generalize nats R = E at *
    obtain ⟨L, hLl⟩ := Int.eq_ofNat_of_zero_le (show 0 ≤ l by omega)
    obtain ⟨M, hMh⟩ := Int.eq_ofNat_of_zero_le (show 0 ≤ h by omega)
    have HLl : Hid (l = (L : Int)) := hLl
    have HMh : Hid (h = (M : Int)) := hMh
    have HL : Hid (L < 9223372036854775807) := by show _ < _; omega
    have HM : Hid (M < 9223372036854775807) := by show _ < _; omega
    have HE1 : Hid (RowsAt w1 0 w1.heap.size ab1 ao1 n (ints E)) := hE1
    have HLAW : Hid (steps E (rev E n) q L = min (steps E (rev E n) q M) (L + 1)) := steps_caps E (rev E n) q L M (by omega)
    have hsl := steps_le E (rev E n) q M
    clear hE1 hLl hMh
    have HEl : Hid (∀ v, v < n → (E v).length ≤ 1048576) := fun v hv => by have := row_le E v n hv; omega
    have HFl : Hid (∀ v, v < n → (rev E n v).length ≤ 1048576) := fun v _ => by have := rev_len E n v; omega
    go_wp2_with fail
    refine (rev_any ab1 ao1 n n E w1.heap.size w1 HE1.out (Nat.le_refl _) HSM HEN.out).mono ?_
    rintro e w2 ⟨bb, bo, rfl, hF2, hbel2⟩
    have HE2 : Hid (RowsAt w2 0 w2.heap.size ab1 ao1 n (ints E)) := (HE1.out.below hbel2 (Nat.le_refl _)).mono (Nat.le_refl _) hbel2.size
    have HF2 : Hid (RowsAt w2 0 w2.heap.size bb bo n (ints (rev E n))) := hF2.mono (Nat.zero_le _) (Nat.le_refl _)
    clear hF2 HE1
    go_wp2_with fail
    refine (new_int ab1 ao1 n bb bo n n L l HLl.out (ints E) (ints (rev E n)) w2.heap.size w2 HE2.out HF2.out (Nat.le_refl _) (by omega) (fun v hv => by rw [ints_len]; exact HEl.out v hv) (fun v hv => by rw [ints_len]; exact HFl.out v hv)).mono ?_
    rintro e w3 ⟨sb, rfl, hsb, hbel3, hSB⟩
    have HK : Hid (Calls Try.prog 14 #[.pointer (some ⟨sb, 0, none⟩), .int .i32 q] w3 fun e w' => e = .returned (.int .i64 (steps E (rev E n) q L : Nat)) ∧ Below sb w3 w') :=
      clique_any sb n L q E (rev E n) w3 hSB hq (by omega) HEN.out (fun v _ => rev_lt E n v) HES.out HEl.out HFl.out HL.out
    clear hSB
    go_wp2_with fail
    refine HK.out.mono ?_
    rintro e w4 ⟨rfl, hbel4⟩
    have hb24 : Below w2.heap.size w2 w4 := hbel3.trans (hbel4.mono hsb)
    have HE4 : Hid (RowsAt w4 0 w4.heap.size ab1 ao1 n (ints E)) := (HE2.out.below hb24 (Nat.le_refl _)).mono (Nat.le_refl _) hb24.size
    have HF4 : Hid (RowsAt w4 0 w4.heap.size bb bo n (ints (rev E n))) := (HF2.out.below hb24 (Nat.le_refl _)).mono (Nat.le_refl _) hb24.size
    clear HK HE2 HF2 hbel3 hbel4 hsb
    go_wp2_with fail
    refine (new_int ab1 ao1 n bb bo n n M h HMh.out (ints E) (ints (rev E n)) w4.heap.size w4 HE4.out HF4.out (Nat.le_refl _) (by omega) (fun v hv => by rw [ints_len]; exact HEl.out v hv) (fun v hv => by rw [ints_len]; exact HFl.out v hv)).mono ?_
    rintro e w5 ⟨sb2, rfl, hsb2, hbel5, hSB⟩
    have HK : Hid (Calls Try.prog 14 #[.pointer (some ⟨sb2, 0, none⟩), .int .i32 q] w5 fun e w' => e = .returned (.int .i64 (steps E (rev E n) q M : Nat)) ∧ Below sb2 w5 w') :=
      clique_any sb2 n M q E (rev E n) w5 hSB hq (by omega) HEN.out (fun v _ => rev_lt E n v) HES.out HEl.out HFl.out HM.out
    clear hSB HE4 HF4 HEl HFl HEN HES
    go_wp2_with fail
    refine HK.out.mono ?_
    rintro e w6 ⟨rfl, hbel6⟩
    have hb46 : Below w4.heap.size w4 w6 := hbel5.trans (hbel6.mono hsb2)
    have HZ := hbel1.trans ((hbel2.mono hbel1.size).trans ((hb24.mono (Nat.le_trans hbel1.size hbel2.size)).trans (hb46.mono (Nat.le_trans (Nat.le_trans hbel1.size hbel2.size) hb24.size))))
    clear HK hb24 hb46 hbel5 hbel6 hbel1 hbel2
    generalize steps E (rev E n) q L = sl at *
    generalize steps E (rev E n) q M = sm at *
    have g1 : ¬ ((sm : Nat) : Int) < 0 := by omega
    have g2 : ¬ (h + 1 < (sm : Int)) := by have := HMh.out; omega
    have HQ : ((sl : Int) == min (sm : Int) (l + 1)) = true := by
      have h1 := HLAW.out
      have h2 := HLl.out
      rw [beq_iff_eq]; omega
    clear hsl HLAW
    go_wp2_with fail
    refine (min_any _ _ _).mono ?_
    rintro e w' ⟨rfl, rfl⟩
    go_wp2_with fail
    go_ret
    exact Yes.mk HZ
  · go_wp2_with fail
    refine (root_no _ n c r _ h3 hn hr).mono ?_
    rintro e w' ⟨rfl, rfl⟩
    go_wp2_with fail
    go_ret
    exact Yes.mk (Below.refl _ _)
end Go.Proofs.Qxb6000686a
