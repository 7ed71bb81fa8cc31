/-
  The seat's own text: the walk of cliqueSteps.
-/
import Derived.Test.Qxb6000686aCq
import Derived.Deep.RegionHeld3
import Derived.Deep.QuietTactic
import Derived.BigQuiet
import Derived.BigRegion
import Derived.Deep.DrawnRows
import Derived.Deep.RegionLaw
import Derived.Deep.CutRange
namespace Go.Proofs.Qxb6000686a
open Go.RowKit Go.Deep Plain

theorem orMap {a b c d : Prop} (h : a ∨ b) (f : a → c) (g : b → d) : c ∨ d := by
  cases h with
  | inl h => exact .inl (f h)
  | inr h => exact .inr (g h)

theorem run_append_nothing {P : Program} (w : World) (t ty e : TypeId) (i : TypeInfo) (ht : P.underlying t = some (.slice e)) (hi : P.info? e = some i) (a : Addr) (c : Nat) :
    (Builtin.append_ #[t, t] ty #[.slice none 0 0, .slice (some a) 0 c]).run P w = .ok (.slice none 0 0) w := by
  simp [Builtin.append_, run_underlying ht, sizeOf, typeInfo, hi, Builtin.lenOf, Builtin.firstCells, loadCells, loadCellsFrom]
theorem step_append_nothing {P : Program} {w : World} {ops : Array Oper} {o : Oper} {a : Act} {K : Act → World → Prop} {Q : Exit → Act → World → Prop} {E : Prop} (hgd : o.guard = none) (s x : Operand) (t : TypeId)
    (ho : o.op = .call { callee := .builtin .append, args := #[s, x], argTypes := #[t, t] }) (e : TypeId) (i : TypeInfo) (ht : P.underlying t = some (.slice e)) (hi : P.info? e = some i)
    (ad : Addr) (c : Nat) (hs : a.eval s = .slice none 0 0) (hx : a.eval x = .slice (some ad) 0 c) (h : K (a.put o.dst (.slice none 0 0)) w) :
    if Region.wanted o (yielded ops a.tmps) = true then Oper.wp P o a w K Q else E := by
  have hw : Region.wanted o (yielded ops a.tmps) = true := by simp [Region.wanted, hgd]
  rw [if_pos hw]
  have hr := run_append_nothing (P := P) w t o.type e i ht hi ad c
  unfold Oper.wp execOp
  simp only [ho, resolve, invoke, builtin, Sem.run_bind, Sem.run_pure, Result.andThen_ok, List.map_toArray, List.map_cons, List.map_nil, hs, hx, hr]
  exact h

theorem elem49 : Try.prog.elem 49 = 47 := by kernel_rfl
theorem slice_head (A : Option Addr) (n c : Nat) (W : World) (hA : A = none ∨ ∃ g, A = some ⟨g, 0, none⟩) : (Instr.slice 49 (.slice A n c) none (some (.int .i64 0)) none).run Try.prog W = .ok (.slice A 0 c) W := by
  rw [run_slice_h W 49 A n c (by rw [elem49]; exact Try.underlying49) .i64 0 (by omega) (by omega)]
  obtain ⟨i0, hi, hi0, hi1, hi2⟩ := info_parts Try.info47
  rcases hA with rfl | ⟨g, rfl⟩
  · simp [sliced, sizeOf, typeInfo, elem49, hi, Result.andThen]
  · simp [sliced, sizeOf, typeInfo, elem49, hi, Result.andThen, Addr.add]

theorem Cq.drewN {w wr : World} {sb n Q ba wa eb eo wb wo : Nat} {lf pa le : Value} {E F : Nat → List Nat} {L : Nat} {cd : Value} {wk mk : Int} {X Y : Nat → Int} (h : Cq w wr sb n Q ba wa eb eo wb wo lf pa le E F L cd wk mk X Y) (q : Nat) : Cq w (wr.drewN q) sb n Q ba wa eb eo wb wo lf pa le E F L cd wk mk X Y :=
  h.blocks ⟨h.bel.os, h.bel.tape, h.bel.output, h.bel.size, h.bel.block⟩ rfl (fun _ _ _ => rfl) rfl rfl

/-- The same while they are sifted. -/
def HeldS (B : Nat) (wr : World) (A : Option Addr) (g cc : Nat) (cs ks : List Nat) (i : Nat) : Prop := (cs = [] ∧ A = none) ∨ (A = some ⟨g, 0, none⟩ ∧ B ≤ g ∧ Sift wr g cc cs ks i)
theorem Sift.olds {w : World} {g cc : Nat} {cs ks : List Nat} {i : Nat} (h : Sift w g cc cs ks i) (hi : i < cs.length) : ∀ j u, (ks.map fun c : Nat => Value.int .i32 (c : Int))[j]? = some u → w.cell? ⟨g, 0 + j, none⟩ = some u := by
  intro j u hu
  obtain ⟨h0, h1, f, h2, h3, h4⟩ := h
  have hj : j < ks.length := by
    have := (List.getElem?_eq_some_iff.1 hu).1
    simpa using this
  rw [Nat.zero_add, h2.cell (by omega), h3 j hj]
  simp [hj] at hu
  rw [hu]
theorem Sift.spare {w : World} {g cc : Nat} {cs ks : List Nat} {i : Nat} (h : Sift w g cc cs ks i) (hi : i < cs.length) (v : Value) : ∀ j, j < [v].length → (w.cell? ⟨g, 0 + ks.length * 1 + j, none⟩).isSome = true ∧ w.frozen? ⟨g, 0 + ks.length * 1 + j, none⟩ = false := by
  intro j hj
  obtain ⟨h0, h1, f, h2, h3, h4⟩ := h
  have : j = 0 := by simpa using hj
  subst this
  simp only [Nat.zero_add, Nat.mul_one, Nat.add_zero]
  exact ⟨by rw [h2.cell (by omega)]; rfl, h2.frozen _⟩

theorem mul_int (s L x y : Nat) (X Y : Int) (hX : X = (x : Int)) (hY : Y = (y : Int)) (w : World) (hl : w.cell? ⟨s, 2, none⟩ = some (.int .i64 L)) (hL : L < 9223372036854775807) (hx : x ≤ 9223372036854775807) (hy : y ≤ 9223372036854775807) (hy0 : 0 < y) :
    Calls Try.prog 42 #[.pointer (some ⟨s, 0, none⟩), .int .i64 X, .int .i64 Y] w fun e w' => e = .returned (.int .i64 (mulS L x y : Nat)) ∧ w' = w := by
  subst hX; subst hY
  exact mul_any s L x y w hl hL hx hy hy0
theorem add_int (s L x y : Nat) (X Y : Int) (hX : X = (x : Int)) (hY : Y = (y : Int)) (w : World) (hl : w.cell? ⟨s, 2, none⟩ = some (.int .i64 L)) (hL : L < 9223372036854775807) (hx : x ≤ L + 1) (hy : y ≤ L + 1) :
    Calls Try.prog 43 #[.pointer (some ⟨s, 0, none⟩), .int .i64 X, .int .i64 Y] w fun e w' => e = .returned (.int .i64 (addS L x y : Nat)) ∧ w' = w := by
  subst hX; subst hY
  exact add_any s L x y w hl hL hx hy
theorem mulS_dfac (L k i : Nat) : mulS L (dfac k i) (k - i) = min (dfac k (i + 1)) (L + 1) := rfl
theorem add_tot (L k i : Nat) (h1 : 1 ≤ i) : addS L (min (tot k i) (L + 1)) (mulS L (dfac k (i + 1) / (i + 1)) (i + 2)) = min (tot k (i + 1)) (L + 1) := by
  unfold mulS
  rw [add_min]
  simp only [tot]
  rw [if_pos h1]
theorem mulS_le (L x y : Nat) : mulS L x y ≤ L + 1 := by unfold mulS; omega

/-- The candidates' header: nil, without one; or the head of a block of the call's own. -/
def Held (B : Nat) (wr : World) (A : Option Addr) (g cc : Nat) (cs : List Nat) : Prop := cc ≤ maxLen ∧ cs.length ≤ cc ∧ ((cs = [] ∧ A = none) ∨ (A = some ⟨g, 0, none⟩ ∧ B ≤ g ∧ Cand wr g cc cs))

set_option maxHeartbeats 3200000 in
set_option maxRecDepth 100000 in
theorem clique_walk (sb n Q ba wa eb eo wb wo : Nat) (lf pa le : Value) (E F : Nat → List Nat) (L r : Nat) (w : World)
    (hC : Cq w w sb n Q ba wa eb eo wb wo lf pa le E F L (.slice none 0 0) 0 0 (fun _ => 0) (fun _ => 0)) (hQb : Q ≤ ba) (hQw : Q ≤ wa) (hbw : ba ≠ wa)
    (hr : r < n) (_hn : n ≤ 1048576) (hE : ∀ v, v < n → ∀ x ∈ E v, x < n) (hF : ∀ v, v < n → ∀ x ∈ F v, x < n) (hs : ∀ v, v < n → ¬ v ∈ E v)
    (hEl : ∀ v, v < n → (E v).length ≤ 1048576) (hFl : ∀ v, v < n → (F v).length ≤ 1048576) (hL : L < 9223372036854775807) :
    Calls Try.prog 39 #[.pointer (some ⟨sb, 0, none⟩), .int .i32 r] w fun e w' => e = .returned (.int .i64 (steps E F r L : Nat)) ∧ Below sb w w' := by
  have hsb := hC.st.lt
  have hl2 := hC.sb_lt
  have hlb := hC.hba.lt
  have hlw := hC.hwa.lt
  go_enter Try.func39, Try.ntmps39
  go_wp2_with fail
  go_cut [] from 17 to 32 (fun wx => ∃ A g cc, Cq w wx sb n Q ba wa eb eo wb wo lf pa le E F L (.slice A (E r).length cc) 0 0 (fun _ => 0) (fun _ => 0) ∧ Held w.heap.size wx A g cc (E r))
  case first =>
    obtain ⟨rb, ro, rC, hrow⟩ := hC.he r hr
    rw [ints_len] at hrow
    have c0 : w.cell? ⟨sb, 0, none⟩ = some (.slice (some ⟨eb, eo, none⟩) n n) := hC.st.cell (i := 0) (by omega)
    have c10 : w.cell? ⟨sb, 10, none⟩ = some (.slice none 0 0) := hC.st.cell (i := 10) (by omega)
    have f10 := hC.st.frozen 10
    have hr0 : (0 : Int) ≤ (r : Int) := Int.natCast_nonneg _
    have hr1 : (r : Int) < (n : Int) := by omega
    obtain ⟨i0, hi, hi0, hi1, hi2⟩ := info_parts Try.info47
    have hlen := hEl r hr
    by_cases h0 : (E r).length = 0
    · rw [h0] at hrow
      have e0 : E r = [] := List.eq_nil_of_length_eq_zero h0
      have HC := (hC.cands hQb hQw (.slice none 0 0)).drew
      have HX : Hid (∃ A g cc, Cq w (w.setCell ⟨sb, 10, none⟩ (.slice none 0 0)).drew sb n Q ba wa eb eo wb wo lf pa le E F L (.slice A (E r).length cc) 0 0 (fun _ => 0) (fun _ => 0) ∧ Held w.heap.size (w.setCell ⟨sb, 10, none⟩ (.slice none 0 0)).drew A g cc (E r)) :=
        ⟨none, 0, 0, by rw [h0]; exact HC, by omega, by omega, .inl ⟨e0, rfl⟩⟩
      clear hC HC hE hF hs hEl hFl e0 h0
      go_region_law (refine step_append_nothing rfl (.tmp 22) (.tmp 29) 49 rfl 47 i0 Try.underlying49 hi ⟨rb, ro, none⟩ rC (by simp [Act.eval, Act.put]) (by simp [Act.eval, Act.put]) ?_)
      all_goals go_wp2
      all_goals go_meet
      all_goals exact HX.out
    · have hnews : ∀ j u, ((E r).map fun c : Nat => Value.int .i32 (c : Int))[j]? = some u → w.cell? ((⟨rb, ro, none⟩ : Addr).add j) = some u := by
        intro j u hu
        have hj : j < (E r).length := by
          have := (List.getElem?_eq_some_iff.1 hu).1
          simpa using this
        have := (hC.edge hr hrow hj).1
        rw [show (⟨rb, ro, none⟩ : Addr).add j = ⟨rb, ro + j, none⟩ from by unfold Addr.add; split <;> simp_all, this]
        simp [hj] at hu
        rw [hu]
      have key : ∀ g cap w1, w1.ownsRow w.heap.size 47 1 (.slice (some ⟨g, 0, none⟩) (0 + (E r).length) cap) (0 + (E r).length) ([] ++ ((E r).map fun c : Nat => Value.int .i32 (c : Int))) → w.drew.grownBy w1 (Value.ownBlock (.slice none 0 0)) →
          w1.cell? ⟨sb, 10, none⟩ = some (.slice none 0 0) ∧ w1.frozen? ⟨sb, 10, none⟩ = false ∧ Hid (∃ A g' cc, Cq w (w1.setCell ⟨sb, 10, none⟩ (.slice (some ⟨g, 0, none⟩) (E r).length cap)) sb n Q ba wa eb eo wb wo lf pa le E F L (.slice A (E r).length cc) 0 0 (fun _ => 0) (fun _ => 0) ∧ Held w.heap.size (w1.setCell ⟨sb, 10, none⟩ (.slice (some ⟨g, 0, none⟩) (E r).length cap)) A g' cc (E r)) := by
        intro g cap w1 hown hgrow
        rw [Nat.zero_add, List.nil_append] at hown
        obtain ⟨hcand, hg, hm⟩ := cand_own hown
        have hk : ∀ b, b < w.heap.size → w1.heap[b]? = w.heap[b]? := fun b hb => hgrow.block b hb (by simp [Value.ownBlock])
        have HC1 : Cq w w1 sb n Q ba wa eb eo wb wo lf pa le E F L (.slice none 0 0) 0 0 (fun _ => 0) (fun _ => 0) :=
          hC.blocks ((Below.refl sb w).drew.grown hgrow (by show sb ≤ w.heap.size; omega) (fun k hk => by simp [Value.ownBlock] at hk)) (hk sb hsb) (fun b _ hb => hk b (by omega)) (hk ba hlb) (hk wa hlw)
        exact ⟨HC1.st.cell (i := 10) (by omega), HC1.st.frozen 10, ⟨some ⟨g, 0, none⟩, g, cap, HC1.cands hQb hQw _, hm, hcand.1, .inr ⟨rfl, hg, hcand.of_block (blk_setCell_other _ _ _ _ (by show g ≠ sb; omega))⟩⟩⟩
      clear hC hE hF hs hEl hFl
      go_region_law ((refine step_append_lies _ rfl (.tmp 22) (.tmp 29) 49 rfl w.heap.size 47 i0 (.int .i32 0) 1 4 Try.underlying49 hi hi0 hi1 hi2 rfl (by omega) (.slice none 0 0) 0 [] (by simp [Act.eval, Act.put]) (World.ownsRow_nil _ _ _ _) ⟨rb, ro, none⟩ (E r).length rC ((E r).map fun c : Nat => Value.int .i32 (c : Int)) (by simp [Act.eval, Act.put]) (by simp) (by exact hnews) (by intro u hu; simp at hu; obtain ⟨c, _, rfl⟩ := hu; rfl) (by omega) (by unfold maxLen; omega) (by omega) (by exact Nat.le_refl _) w.heap.size (by rfl) ?_; intro g cap w1 hown hgrow hat hglt; obtain ⟨g10, gf10, GX⟩ := key g cap w1 hown hgrow; clear hown hgrow hat hglt))
      all_goals go_wp2
      all_goals go_meet
      all_goals exact GX.out
  case rest =>
    obtain ⟨A, g, cc, hC0, hH0⟩ := hcut
    clear hC
    have hlr := hEl r hr
    go_wp2
    go_loopg [5, 6] ((E r).length + 1) (fun gk sk sx wr => ∃ (k x : Nat) (cs : List Nat) (m wk : Int) (X Y : Nat → Int), sk = .int .i64 k ∧ sx = .int .i32 x ∧ x < n ∧ 1 ≤ k ∧ k + gk ≤ (E r).length + 2 ∧ m = (k : Int) - 1 ∧
      Cq w wr sb n Q ba wa eb eo wb wo lf pa le E F L (.slice A cs.length cc) wk m X Y ∧ Held w.heap.size wr A g cc cs ∧ (∀ c ∈ cs, c < n) ∧ (∀ j, X j < m + 1) ∧ (∀ j, Y j < m + 1) ∧ (cs.length + 1 ≤ gk ∨ (x ∈ cs ∧ cs.length ≤ gk)) ∧ k + grow E F gk x cs = cliqueK E F r)
    case atStart => exact ⟨1, r, E r, 0, 0, fun _ => 0, fun _ => 0, rfl, rfl, hr, by omega, by omega, by simp, hC0, hH0, hE r hr, by simp, by simp, .inl (Nat.le_refl _), by unfold cliqueK; rfl⟩
    case round =>
      obtain ⟨k, x, cs, m, wk, X, Y, rfl, rfl, hx, hk1, hk2, hm, hC, hH, hcs, hX, hY, hfu, hK⟩ := hrel
      obtain ⟨wv, rfl⟩ : ∃ wv, wv = wr := ⟨wr, rfl⟩
      have hm0 : 0 ≤ m := by omega
      have hcsl : cs.length ≤ 1048579 := by rcases hfu with h | h <;> omega
      have hm1 : m ≤ 1048578 := by omega
      have HM : Hid (m = (k : Int) - 1) := hm
      have HK : Hid (k + grow E F gk x cs = cliqueK E F r) := hK
      obtain ⟨b, o, C, hhead⟩ := hC.he x hx
      rw [ints_len] at hhead
      have hh0 := hhead
      have c0 : wv.cell? ⟨sb, 0, none⟩ = some (.slice (some ⟨eb, eo, none⟩) n n) := hC.st.cell (i := 0) (by omega)
      have c13 : wv.cell? ⟨sb, 13, none⟩ = some (.int .i64 m) := hC.st.cell (i := 13) (by omega)
      have f13 := hC.st.frozen 13
      have hC1 := hC.mark hQb hQw (m + 1)
      have hH1 : Held w.heap.size (wv.setCell ⟨sb, 13, none⟩ (.int .i64 (m + 1))) A g cc cs := ⟨hH.1, hH.2.1, orMap hH.2.2 id fun h => ⟨h.1, h.2.1, h.2.2.of_block (blk_setCell_other _ _ _ _ (by show g ≠ sb; have := h.2.1; omega))⟩⟩
      have hb' : (E x).length = 0 ∨ (sb < b ∧ b < Q) := by
        by_cases h : (E x).length = 0
        · exact .inl h
        · exact .inr (hC.edge hx hhead (i := 0) (by omega)).2
      have hlx := hEl x hx
      clear hm hK hC hH hC0 hH0 
      go_wp2
      clear c0 c13 f13 hhead
      go_loopg [51] (E x).length (fun gi s wi => ∃ i : Nat, i ≤ (E x).length ∧ gi = (E x).length - i ∧ s = .int .i64 i ∧
        Cq w wi sb n Q ba wa eb eo wb wo lf pa le E F L (.slice A cs.length cc) wk (m + 1) (marked ((E x).take i) (m + 1) X) Y ∧ Held w.heap.size wi A g cc cs ∧ wi.cell? ⟨eb, eo + x, none⟩ = some (.slice (some ⟨b, o, none⟩) (E x).length C))
      case atStart => exact ⟨0, Nat.zero_le _, rfl, rfl, by rw [List.take_zero, ← marked_nil]; exact hC1, hH1, by rw [World.cell?_of_block (w := wv) (blk_setCell_other _ _ _ _ (by show eb ≠ sb; omega))]; exact hh0⟩
      case round =>
        obtain ⟨i, hi, rfl, rfl, hCi, hHi, hhead⟩ := hrel
        clear hC1 hH1
        by_cases hil : i < (E x).length
        · have hcell := (hCi.edge hx hhead hil).1
          have hcn := hE x hx _ (List.getElem_mem hil)
          have HT : Hid ((fun j => if j = (E x)[i] then m + 1 else marked ((E x).take i) (m + 1) X j) = marked ((E x).take (i + 1)) (m + 1) X) := marked_take _ _ hil _ _
          generalize (E x)[i] = c at *
          have c11 : wr.cell? ⟨sb, 11, none⟩ = some (.slice (some ⟨ba, 0, none⟩) n n) := hCi.st.cell (i := 11) (by omega)
          have c13 : wr.cell? ⟨sb, 13, none⟩ = some (.int .i64 (m + 1)) := hCi.st.cell (i := 13) (by omega)
          have cb := hCi.hba.cell hcn
          have fb := hCi.hba.frozen c
          have hc0 : (0 : Int) ≤ (c : Int) := Int.natCast_nonneg _
          have hc1 : (c : Int) < (n : Int) := by omega
          have HX : Hid (∀ W, W = wr.setCell ⟨ba, c, none⟩ (.int .i64 (m + 1)) → Cq w W sb n Q ba wa eb eo wb wo lf pa le E F L (.slice A cs.length cc) wk (m + 1) (marked ((E x).take (i + 1)) (m + 1) X) Y ∧ Held w.heap.size W A g cc cs ∧ W.cell? ⟨eb, eo + x, none⟩ = some (.slice (some ⟨b, o, none⟩) (E x).length C)) := by
            intro W hW
            subst hW
            refine ⟨(hCi.setX hQb hbw c (m + 1)).congrX HT.out, ⟨hHi.1, hHi.2.1, orMap hHi.2.2 (fun h => h) fun h => ⟨h.1, h.2.1, h.2.2.of_block (blk_setCell_other _ _ _ _ (by show g ≠ ba; have := h.2.1; omega))⟩⟩, ?_⟩
            rw [World.cell?_of_block (w := wr) (blk_setCell_other _ _ _ _ (by show eb ≠ ba; omega))]
            exact hhead
          clear hCi hHi hhead hE hF hs hEl hFl HT hX hY hcs hfu
          go_wp2
          go_region
          all_goals go_wp2
          go_roundg ((E x).length - (i + 1))
          case measure => omega
          case rel => exact ⟨i + 1, by omega, rfl, by go_num, (HX.out _ rfl).1.drew, (HX.out _ rfl).2.1, (HX.out _ rfl).2.2⟩
        · have hfull := marked_full (E x) (m + 1) X i (by omega)
          rw [hfull] at hCi
          obtain ⟨wv2, rfl⟩ : ∃ wv2, wv2 = wr := ⟨wr, rfl⟩
          obtain ⟨b2, o2, C2, hhead2⟩ := hCi.hf x hx
          rw [ints_len] at hhead2
          have hh2 := hhead2
          have c1 : wv2.cell? ⟨sb, 1, none⟩ = some (.slice (some ⟨wb, wo, none⟩) n n) := hCi.st.cell (i := 1) (by omega)
          have hlx2 := hFl x hx
          clear hfull hhead hh0
          have hXe : Hid (∀ c, (marked (E x) (m + 1) X c == m + 1) = (E x).contains c) := fun c => marked_eq _ _ _ _ (hX c)
          have hXl : Hid (∀ j, marked (E x) (m + 1) X j ≤ m + 1) := marked_le _ _ _ hX
          generalize marked (E x) (m + 1) X = X' at *
          go_wp2
          clear c1 hhead2
          go_loopg [74] (F x).length (fun gi s wi => ∃ i : Nat, i ≤ (F x).length ∧ gi = (F x).length - i ∧ s = .int .i64 i ∧
            Cq w wi sb n Q ba wa eb eo wb wo lf pa le E F L (.slice A cs.length cc) wk (m + 1) X' (marked ((F x).take i) (m + 1) Y) ∧ Held w.heap.size wi A g cc cs ∧ wi.cell? ⟨wb, wo + x, none⟩ = some (.slice (some ⟨b2, o2, none⟩) (F x).length C2))
          case atStart => exact ⟨0, Nat.zero_le _, rfl, rfl, by rw [List.take_zero, ← marked_nil]; exact hCi, hHi, hh2⟩
          case round =>
            obtain ⟨i2, hi2, rfl, rfl, hCj, hHj, hhead2⟩ := hrel
            clear hCi hHi hh2
            by_cases hil : i2 < (F x).length
            · have hcell := (hCj.waiter hx hhead2 hil).1
              have hcn := hF x hx _ (List.getElem_mem hil)
              have HT : Hid ((fun j => if j = (F x)[i2] then m + 1 else marked ((F x).take i2) (m + 1) Y j) = marked ((F x).take (i2 + 1)) (m + 1) Y) := marked_take _ _ hil _ _
              generalize (F x)[i2] = c at *
              have c12 : wr.cell? ⟨sb, 12, none⟩ = some (.slice (some ⟨wa, 0, none⟩) n n) := hCj.st.cell (i := 12) (by omega)
              have c13 : wr.cell? ⟨sb, 13, none⟩ = some (.int .i64 (m + 1)) := hCj.st.cell (i := 13) (by omega)
              have cb := hCj.hwa.cell hcn
              have fb := hCj.hwa.frozen c
              have hc0 : (0 : Int) ≤ (c : Int) := Int.natCast_nonneg _
              have hc1 : (c : Int) < (n : Int) := by omega
              have HX : Hid (∀ W, W = wr.setCell ⟨wa, c, none⟩ (.int .i64 (m + 1)) → Cq w W sb n Q ba wa eb eo wb wo lf pa le E F L (.slice A cs.length cc) wk (m + 1) X' (marked ((F x).take (i2 + 1)) (m + 1) Y) ∧ Held w.heap.size W A g cc cs ∧ W.cell? ⟨wb, wo + x, none⟩ = some (.slice (some ⟨b2, o2, none⟩) (F x).length C2)) := by
                intro W hW
                subst hW
                refine ⟨(hCj.setY hQw hbw c (m + 1)).congrY HT.out, ⟨hHj.1, hHj.2.1, orMap hHj.2.2 (fun h => h) fun h => ⟨h.1, h.2.1, h.2.2.of_block (blk_setCell_other _ _ _ _ (by show g ≠ wa; have := h.2.1; omega))⟩⟩, ?_⟩
                rw [World.cell?_of_block (w := wr) (blk_setCell_other _ _ _ _ (by show wb ≠ wa; omega))]
                exact hhead2
              clear hCj hHj hhead2 hE hF hs hEl hFl HT hX hY hcs hfu
              go_wp2
              go_region
              all_goals go_wp2
              go_roundg ((F x).length - (i2 + 1))
              case measure => omega
              case rel => exact ⟨i2 + 1, by omega, rfl, by go_num, (HX.out _ rfl).1.drew, (HX.out _ rfl).2.1, (HX.out _ rfl).2.2⟩
            · have hfull := marked_full (F x) (m + 1) Y i2 (by omega)
              rw [hfull] at hCj
              have hYe : Hid (∀ c, (marked (F x) (m + 1) Y c == m + 1) = (F x).contains c) := fun c => marked_eq _ _ _ _ (hY c)
              have hYl : Hid (∀ j, marked (F x) (m + 1) Y j ≤ m + 1) := marked_le _ _ _ hY
              obtain ⟨wv3, rfl⟩ : ∃ wv3, wv3 = wr := ⟨wr, rfl⟩
              generalize marked (F x) (m + 1) Y = Y' at *
              obtain ⟨b1, o1, C1, hhead1⟩ := hCj.he x hx
              rw [ints_len] at hhead1
              have c0 : wv3.cell? ⟨sb, 0, none⟩ = some (.slice (some ⟨eb, eo, none⟩) n n) := hCj.st.cell (i := 0) (by omega)
              have c1 : wv3.cell? ⟨sb, 1, none⟩ = some (.slice (some ⟨wb, wo, none⟩) n n) := hCj.st.cell (i := 1) (by omega)
              have c4 : wv3.cell? ⟨sb, 4, none⟩ = some (.int .i64 wk) := hCj.st.cell (i := 4) (by omega)
              have c10 : wv3.cell? ⟨sb, 10, none⟩ = some (.slice A cs.length cc) := hCj.st.cell (i := 10) (by omega)
              have f4 := hCj.st.frozen 4
              have hx0 : (0 : Int) ≤ (x : Int) := Int.natCast_nonneg _
              have hx1 : (x : Int) < (n : Int) := by omega
              have hcl : cs.length ≤ 9223372036854775807 := by have h1 := hHj.1; have h2 := hHj.2.1; unfold maxLen at h1; omega
              clear hfull hX hY
              go_wp2
              go_cut [] from 34 to 174 (fun wx => ∃ wk', Cq w wx sb n Q ba wa eb eo wb wo lf pa le E F L (.slice A cs.length cc) wk' (m + 1) X' Y' ∧ Held w.heap.size wx A g cc cs)
              case first =>
                have HX : Hid (∀ W z, W = wv3.setCell ⟨sb, 4, none⟩ (.int .i64 z) → Cq w W sb n Q ba wa eb eo wb wo lf pa le E F L (.slice A cs.length cc) z (m + 1) X' Y' ∧ Held w.heap.size W A g cc cs) := by
                  intro W z hW
                  subst hW
                  exact ⟨hCj.work hQb hQw z, ⟨hHj.1, hHj.2.1, orMap hHj.2.2 (fun h => h) fun h => ⟨h.1, h.2.1, h.2.2.of_block (blk_setCell_other _ _ _ _ (by show g ≠ sb; have := h.2.1; omega))⟩⟩⟩
                clear hCj hHj hE hF hs hEl hFl hcs hfu
                go_region
                all_goals go_wp2
                go_meet
                exact ⟨_, (HX.out _ _ rfl).1.drew, (HX.out _ _ rfl).2⟩
              case rest =>
                obtain ⟨wk', hC, hH⟩ := hcut
                clear hCj hHj c0 c1 c4 c10 f4 hhead1 hE hF
                have c10 : wc.cell? ⟨sb, 10, none⟩ = some (.slice A cs.length cc) := hC.st.cell (i := 10) (by omega)
                have hsl : ∀ W, (Instr.slice 49 (.slice A cs.length cc) none (some (.int .i64 0)) none).run Try.prog W = .ok (.slice A 0 cc) W := fun W => slice_head A _ _ W (orMap hH.2.2 (fun h => h.2) (fun h => ⟨g, h.1⟩))
                have hH0 : HeldS w.heap.size wc A g cc cs [] 0 := orMap hH.2.2 (fun h => h) (fun h => ⟨h.1, h.2.1, h.2.2.sift⟩)
                have hcc : cs.length ≤ cc := hH.2.1
                have hcm : cc ≤ maxLen := hH.1
                clear hH
                go_wp2
                clear c10 hsl
                go_loopg [11, 130] cs.length (fun gi s11 s130 wi => ∃ (i : Nat) (ks : List Nat), i ≤ cs.length ∧ gi = cs.length - i ∧ s130 = .int .i64 i ∧ s11 = .slice A ks.length cc ∧ ks = (cs.take i).filter (pass E F x) ∧
                  Cq w wi sb n Q ba wa eb eo wb wo lf pa le E F L (.slice A cs.length cc) wk' (m + 1) X' Y' ∧ HeldS w.heap.size wi A g cc cs ks i)
                case atStart => exact ⟨0, [], Nat.zero_le _, rfl, rfl, rfl, rfl, hC, hH0⟩
                case round =>
                  obtain ⟨i, ks, hi, rfl, rfl, rfl, hks, hCk, hHk⟩ := hrel
                  have HKS : Hid (ks = (cs.take i).filter (pass E F x)) := hks
                  clear hC hH0 hks
                  by_cases hil : i < cs.length
                  · obtain ⟨rfl, hg, hsift⟩ : A = some ⟨g, 0, none⟩ ∧ w.heap.size ≤ g ∧ Sift wr g cc cs ks i := by
                      rcases hHk with h | h
                      · rw [h.1] at hil; exact absurd hil (by simp)
                      · exact h
                    have hcell := hsift.cell hil
                    have hcn := hcs _ (List.getElem_mem hil)
                    have hp : Hid (pass E F x cs[i] = ((X' cs[i] == m + 1) && (Y' cs[i] == m + 1))) := by
                      show _ = _
                      unfold pass; rw [hXe.out, hYe.out]
                    have hsn : Hid (cs.take (i + 1) = cs.take i ++ [cs[i]]) := List.take_succ_eq_append_getElem hil
                    have HKP : Hid (∀ W, Sift W g cc cs ks i → Sift (W.setCell ⟨g, ks.length, none⟩ (.int .i32 ((cs[i] : Nat) : Int))) g cc cs (ks ++ [cs[i]]) (i + 1)) := fun W h => h.keep hil
                    generalize hce : cs[i] = c at *
                    clear hce
                    have c11 : wr.cell? ⟨sb, 11, none⟩ = some (.slice (some ⟨ba, 0, none⟩) n n) := hCk.st.cell (i := 11) (by omega)
                    have c12 : wr.cell? ⟨sb, 12, none⟩ = some (.slice (some ⟨wa, 0, none⟩) n n) := hCk.st.cell (i := 12) (by omega)
                    have c13 : wr.cell? ⟨sb, 13, none⟩ = some (.int .i64 (m + 1)) := hCk.st.cell (i := 13) (by omega)
                    have cb := hCk.hba.cell hcn
                    have cw := hCk.hwa.cell hcn
                    have hc0 : (0 : Int) ≤ (c : Int) := Int.natCast_nonneg _
                    have hc1 : (c : Int) < (n : Int) := by omega
                    generalize X' c = xc at *
                    generalize Y' c = yc at *
                    have HCk : Hid (Cq w wr sb n Q ba wa eb eo wb wo lf pa le E F L (.slice (some ⟨g, 0, none⟩) cs.length cc) wk' (m + 1) X' Y') := hCk
                    have HS : Hid (Sift wr g cc cs ks i) := hsift
                    have hkl := hsift.2.1
                    have hglt : g < wr.heap.size := by obtain ⟨_, _, f, hf, _⟩ := hsift; exact hf.lt
                    have hgi : (i : Int) < (cs.length : Int) := by omega
                    clear hCk hsift hHk hs hEl hFl hcs hfu
                    by_cases h1 : (xc == m + 1) = true
                    · by_cases h2 : (yc == m + 1) = true
                      · have hk' : Hid (ks ++ [c] = (cs.take (i + 1)).filter (pass E F x)) := by
                          show _ = _
                          rw [hsn.out, List.filter_append, ← HKS.out]; simp [hp.out, h1, h2]
                        clear hp hsn
                        obtain ⟨i0, hi, hi0, hi1, hi2⟩ := info_parts Try.info47
                        go_wp2
                        go_quiet (fail)
                        have HSA : Hid (∀ ob, Sift ((wr.drewN nq).alloc ob) g cc cs ks i) := fun ob => HS.out.of_block (blk_alloc_lt _ _ _ hglt)
                        go_wp2_with (at_builtin; go_must (refine wpList_append_arg _ rfl _ _ 49 rfl 47 i0 (.int .i32 0) 1 4 Try.underlying49 hi hi0 hi1 hi2 rfl (by omega) g 0 ks.length cc (ks.map fun c : Nat => Value.int .i32 (c : Int)) rfl (by simp) (by exact (HSA.out _).olds hil) ⟨wr.heap.size, 0, none⟩ 1 1 [.int .i32 (c : Int)] rfl rfl (by exact cell_one_new _ _ _) ?c1 (fun _ => by exact (HSA.out _).spare hil _) (by unfold maxLen; omega) (by omega) ?c2 (fun h => absurd h (by omega))))
                        case c1 => intro u hu; simp at hu; subst hu; rfl
                        case c2 =>
                          intro _
                          have HW : Hid (∀ ob W, W = ((wr.drewN nq).alloc ob).setCell ⟨g, ks.length, none⟩ (.int .i32 (c : Int)) → Cq w W sb n Q ba wa eb eo wb wo lf pa le E F L (.slice (some ⟨g, 0, none⟩) cs.length cc) wk' (m + 1) X' Y' ∧ Sift W g cc cs (ks ++ [c]) (i + 1)) := by
                            intro ob W hW
                            subst hW
                            exact ⟨((HCk.out.drewN nq).alloc hQb ob).other _ (by show sb < g; omega) (by show Q ≤ g; omega) (by show g ≠ ba; omega) (by show g ≠ wa; omega), HKP.out _ (HSA.out ob)⟩
                          clear HSA HCk HS HKP
                          go_wp2
                          go_roundg (cs.length - (i + 1))
                          case measure => omega
                          case rel => exact ⟨i + 1, ks ++ [c], by omega, rfl, by go_num, by simp, hk'.out, (HW.out (.cells #[.int .i32 (c : Int)] 47) _ rfl).1, .inr ⟨rfl, hg, (HW.out (.cells #[.int .i32 (c : Int)] 47) _ rfl).2⟩⟩
                      · have h2' : (yc == m + 1) = false := by simpa using h2
                        have hk' : Hid (ks = (cs.take (i + 1)).filter (pass E F x)) := by
                          show _ = _
                          rw [hsn.out, List.filter_append, ← HKS.out]; simp [hp.out, h2']
                        clear h2 hp hsn HKP
                        go_wp2
                        go_quiet (fail)
                        go_wp2
                        go_roundg (cs.length - (i + 1))
                        case measure => omega
                        case rel => exact ⟨i + 1, ks, by omega, rfl, by go_num, rfl, hk'.out, HCk.out.drewN _, .inr ⟨rfl, hg, HS.out.skip.of_block rfl⟩⟩
                    · have h1' : (xc == m + 1) = false := by simpa using h1
                      have hk' : Hid (ks = (cs.take (i + 1)).filter (pass E F x)) := by
                        show _ = _
                        rw [hsn.out, List.filter_append, ← HKS.out]; simp [hp.out, h1']
                      clear h1 hp hsn HKP
                      go_wp2
                      go_quiet (fail)
                      go_wp2
                      go_roundg (cs.length - (i + 1))
                      case measure => omega
                      case rel => exact ⟨i + 1, ks, by omega, rfl, by go_num, rfl, hk'.out, HCk.out.drewN _, .inr ⟨rfl, hg, HS.out.skip.of_block rfl⟩⟩
                  · have ei : i = cs.length := by omega
                    have HKF : Hid (ks = cs.filter (pass E F x)) := by
                      show _ = _
                      rw [HKS.out, ei, List.take_length]
                    have f10 := hCk.st.frozen 10
                    have c10 : wr.cell? ⟨sb, 10, none⟩ = some (.slice A cs.length cc) := hCk.st.cell (i := 10) (by omega)
                    have hgk : 1 ≤ gk := by
                      rcases hfu with h | h
                      · omega
                      · have := List.length_pos_of_mem h.1; omega
                    have hCn := hCk.cands hQb hQw (.slice A ks.length cc)
                    by_cases hkc : ks = []
                    · have hKk : k = cliqueK E F r := by
                        have h := HK.out
                        rw [show gk = (gk - 1) + 1 from by omega, grow_nil E F _ x cs (by rw [← HKF.out, hkc])] at h
                        omega
                      have hkle := cliqueK_le E F r
                      subst hkc
                      have c2 : (wr.setCell ⟨sb, 10, none⟩ (.slice A ([] : List Nat).length cc)).cell? ⟨sb, 2, none⟩ = some (.int .i64 L) := hCn.st.cell (i := 2) (by omega)
                      have hbel := hCn.bel
                      have HF : Hid (steps E F r L = min (tot k k) (L + 1)) := by
                        show _ = _
                        unfold steps; rw [← hKk]
                      have hk3 : k ≤ 1048579 := by omega
                      clear hCn hCk hHk HKS HKF HK hKk hkle hfu hs hEl hFl hcs hXe hXl hYe hYl ei HM
                      simp only [List.length_nil] at *
                      go_wp2
                      clear c10 f10
                      generalize wr.setCell ⟨sb, 10, none⟩ (.slice A 0 cc) = w5 at *
                      go_loop [14, 15, 16] (fun a b c => ∃ j : Nat, 1 ≤ j ∧ j ≤ k ∧ c = .int .i64 ((j : Int) + 1) ∧ b = .int .i64 (dfac k j : Nat) ∧ dfac k j ≤ 9223372036854775807 ∧ a = .int .i64 (min (tot k j) (L + 1) : Nat)) (fun _ _ c => k + 1 - (intOf c).toNat)
                      case atStart => exact ⟨1, Nat.le_refl _, hk1, by rfl, by rw [dfac_one], by rw [dfac_one]; omega, by rw [tot_one]; simp⟩
                      case round =>
                        obtain ⟨j, hj1, hjk, rfl, rfl, hd, rfl⟩ := hrel
                        by_cases hlt : j < k
                        · have hmu := mulS_dfac L k j
                          have hlt' : (j : Int) + 1 ≤ (k : Int) := by omega
                          have HE : Hid (L < dfac k (j + 1) → L + 1 ≤ tot k k) := Plain.early k (j + 1) L (by omega) (by omega)
                          have HA : Hid (addS L (min (tot k j) (L + 1)) (mulS L (dfac k (j + 1) / (j + 1)) (j + 2)) = min (tot k (j + 1)) (L + 1)) := add_tot L k j hj1
                          have HB := mulS_le L (dfac k (j + 1) / (j + 1)) (j + 2)
                          have HMU : Hid (mulS L (dfac k j) (k - j) = min (dfac k (j + 1)) (L + 1)) := hmu
                          clear hmu
                          have h2 : min (tot k j) (L + 1) ≤ L + 1 := Nat.min_le_right _ _
                          generalize htj : min (tot k j) (L + 1) = tj at *
                          clear htj
                          generalize dfac k j = dj at *
                          generalize hd1 : dfac k (j + 1) = d1 at *
                          have HD2 : Hid (d1 = dfac k (j + 1)) := hd1.symm
                          clear hd1
                          generalize tot k k = tk at *
                          go_wp2_with fail
                          refine (mul_int sb L dj (k - j) _ _ rfl (by omega) _ c2 hL (by omega) (by omega) (by omega)).mono ?_
                          rintro e w' ⟨rfl, rfl⟩
                          rw [HMU.out]
                          by_cases hov : L < d1
                          · have hmin : min d1 (L + 1) = L + 1 := by omega
                            rw [hmin]
                            have hF2 : steps E F r L = L + 1 := by
                              rw [HF.out]; have := HE.out hov; omega
                            have HF2 : Hid (steps E F r L = L + 1) := hF2
                            clear hF2 hmin
                            go_wp2_with fail
                            go_ret
                            exact ⟨ret_int (by rw [HF2.out]; omega), hbel⟩
                          · have hmin : min d1 (L + 1) = d1 := by omega
                            rw [hmin]
                            clear hmin
                            have hov' : ¬ (L : Int) < (d1 : Int) := by omega
                            have HD : Hid ((Value.int .i64 (d1 : Int)) = .int .i64 (dfac k (j + 1) : Nat)) := by rw [HD2.out]; exact rfl
                            have hq : d1 / (j + 1) ≤ d1 := Nat.div_le_self _ _
                            have eq : (d1 : Int) / ((j : Int) + 1) = ((d1 / (j + 1) : Nat) : Int) := by simp
                            have hq1 : 0 ≤ (d1 : Int) / ((j : Int) + 1) := by rw [eq]; exact Int.natCast_nonneg _
                            have hq2 : (d1 : Int) / ((j : Int) + 1) ≤ 9223372036854775807 := by rw [eq]; exact Int.le_trans (Int.ofNat_le.2 hq) (by omega)
                            clear eq
                            go_wp2_with fail
                            refine (mul_int sb L (d1 / (j + 1)) (j + 2) _ _ (by simp) (by omega) _ c2 hL (by omega) (by omega) (by omega)).mono ?_
                            rintro e w' ⟨rfl, rfl⟩
                            go_wp2_with fail
                            refine (add_int sb L tj (mulS L (d1 / (j + 1)) (j + 2)) _ _ rfl rfl _ c2 hL h2 HB).mono ?_
                            rintro e w' ⟨rfl, rfl⟩
                            rw [HA.out]
                            go_wp2_with fail
                            go_round
                            case rel => exact ⟨j + 1, by omega, by omega, by go_num, HD.out, by rw [← HD2.out]; omega, rfl⟩
                            case measure => simp [intOf]; omega
                        · have ej : k = j := by omega
                          have HJ : Hid (min (tot k j) (L + 1) = steps E F r L) := by
                            show _ = _
                            rw [HF.out, ← ej]
                          rw [HJ.out]
                          clear ej
                          go_wp2_with fail
                          go_ret
                          exact ⟨rfl, hbel⟩
                    · obtain ⟨c0, t, hkc⟩ : ∃ c0 t, ks = c0 :: t := by
                        cases ks with
                        | nil => exact absurd rfl hkc
                        | cons a b => exact ⟨a, b, rfl⟩
                      obtain ⟨rfl, hg, hsift⟩ : A = some ⟨g, 0, none⟩ ∧ w.heap.size ≤ g ∧ Sift wr g cc cs ks i := by
                        rcases hHk with h | h
                        · have hF := HKF.out
                          rw [h.1, hkc] at hF
                          cases hF
                        · exact h
                      have hcand := hsift.done (by omega)
                      have hc0 : wr.cell? ⟨g, 0, none⟩ = some (.int .i32 (c0 : Int)) := by
                        obtain ⟨h0, f, h1, h2⟩ := hcand
                        rw [h1.cell (by rw [hkc] at h0; simp at h0; omega), h2 0 (by rw [hkc]; simp)]
                        simp [hkc]
                      have hsub : ∀ c ∈ ks, c ∈ cs := fun c hc => by rw [HKF.out] at hc; exact (List.mem_filter.1 hc).1
                      have hkl : ks.length = t.length + 1 := by rw [hkc]; simp
                      have hlen : ks.length ≤ gk - 1 := by
                        rcases hfu with h | h
                        · have := List.length_filter_le (pass E F x) cs
                          rw [← HKF.out] at this; omega
                        · have := Plain.filter_lt E F x cs h.1 (hs x hx)
                          rw [← HKF.out] at this; omega
                      have hKn : (k + 1) + grow E F (gk - 1) c0 ks = cliqueK E F r := by
                        have h := HK.out
                        rw [show gk = (gk - 1) + 1 from by omega, grow_cons E F _ x cs c0 t (by rw [← HKF.out, hkc])] at h
                        rw [hkc]; omega
                      have HN : Hid (Cq w (wr.setCell ⟨sb, 10, none⟩ (.slice (some ⟨g, 0, none⟩) ks.length cc)) sb n Q ba wa eb eo wb wo lf pa le E F L (.slice (some ⟨g, 0, none⟩) ks.length cc) wk' (m + 1) X' Y' ∧ Held w.heap.size (wr.setCell ⟨sb, 10, none⟩ (.slice (some ⟨g, 0, none⟩) ks.length cc)) (some ⟨g, 0, none⟩) g cc ks ∧ (∀ c ∈ ks, c < n) ∧ c0 < n ∧ c0 ∈ ks ∧ (k + 1) + grow E F (gk - 1) c0 ks = cliqueK E F r ∧ ks.length ≤ gk - 1 ∧ ((m + 1 : Int) = ((k + 1 : Nat) : Int) - 1)) :=
                        ⟨hCn, ⟨hcm, hcand.1, .inr ⟨rfl, hg, hcand.of_block (blk_setCell_other _ _ _ _ (by show g ≠ sb; omega))⟩⟩, fun c hc => hcs c (hsub c hc), hcs c0 (hsub c0 (by rw [hkc]; simp)), by rw [hkc]; simp, hKn, hlen, by have := HM.out; omega⟩
                      have hpos : (0 : Int) < (ks.length : Int) := by omega
                      have hne0 : ((ks.length : Int) == 0) = false := beq_eq_false_iff_ne.2 (by omega)
                      have hksl : ks.length ≤ 9223372036854775807 := by have h := hcand.1; unfold maxLen at hcm; omega
                      clear hCn hCk hsift hcand hHk HKS HKF HK hKn hlen hkl hsub hfu hs hEl hFl hcs ei HM hkc hXe hYe
                      go_wp2
                      go_roundg (gk - 1)
                      case measure => omega
                      case rel =>
                        obtain ⟨n1, n2, n3, n4, n5, n6, n7, n8⟩ := HN.out
                        exact ⟨k + 1, c0, ks, m + 1, wk', X', Y', by go_num, rfl, n4, by omega, by omega, n8, n1, n2, n3, fun j => by have := hXl.out j; omega, fun j => by have := hYl.out j; omega, .inr ⟨n5, n7⟩, n6⟩
end Go.Proofs.Qxb6000686a
