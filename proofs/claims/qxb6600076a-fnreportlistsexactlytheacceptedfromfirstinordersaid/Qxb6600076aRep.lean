/-
  The seat's own text: the walk of Acceptor.report.
-/
import Derived.Test.Qxb6600076aOwn
import Derived.Maps.AppendAt
namespace Go.Proofs.Qxb6600076a
open Go.RowKit Go.Deep Go.Maps
set_option linter.unusedSimpArgs false

theorem Try.info40 : (Try.prog.info? 40).map (fun i => (i.zero, i.size, i.bytes)) = some (some (.int .u64 0), 1, 8) := by kernel_rfl
theorem Try.info51 : (Try.prog.info? 51).map (fun i => (i.zero, i.size, i.bytes)) = some (some (.agg #[.int .u64 0, .int .u64 0, .int .u32 0, .int .u32 0, .int .u64 0, .string ⟨#[]⟩, .bool false]), 7, 64) := by kernel_rfl

/-- An entry of the report, cell by cell. -/
def ent (e : Int × Pr) : List Value := [.int .u64 e.1, .int .u64 e.2.r, .int .u32 e.2.a, .int .u32 e.2.b, .int .u64 e.2.c, .string e.2.s, .bool e.2.x]
def flat (es : List (Int × Pr)) : List Value := es.flatMap ent
theorem flat_snoc (es : List (Int × Pr)) (e : Int × Pr) : flat (es ++ [e]) = flat es ++ ent e := by simp [flat]

def RepPost (D : DataW Unit) (f : Int) (w : World) (e : Ending) (w' : World) : Prop :=
  ∃ v es, e = .returned v ∧ w'.ownsRow w.heap.size 51 7 v es.length (flat es) ∧ Sorted D f (es.map (·.1)) ∧ (∀ e ∈ es, D.atKey (.int .u64 e.1) zeroP.dat = e.2.dat) ∧ (es = [] → v = .slice none 0 0) ∧ es.length ≤ 65536 ∧ Below w.heap.size w w'

theorem invK (key : Value) (kl : Lit) (h : keyOf Try.prog 40 key = some kl) : ∃ x, key = Value.int .u64 x := by
  obtain ⟨x, rfl, _⟩ := Maps.keyOf_int_inv Try.underlying40 h
  exact ⟨x, rfl⟩
theorem invV (v : Value) (y : DataW Unit × List MemPlace) (h : elemP v = some y) : ∃ p, v = Pr.val p := by
  obtain ⟨p, rfl, _⟩ := elemP_inv h
  exact ⟨p, rfl⟩
theorem row_ne_low' {w : World} {base : Nat} {e : TypeId} {size : Nat} {v : Value} {n : Nat} {xs : List Value} (h : w.ownsRow base e size v n xs) {b : Nat} (hb : b < base) : some b ≠ v.ownBlock := fun e1 => by
  have := (h.lt b e1.symm).1
  omega

theorem cells_new (w : World) (cs : Array Value) (t : TypeId) : ∀ j u, cs.toList[j]? = some u → (w.alloc (.cells cs t)).cell? ((⟨w.heap.size, 0, none⟩ : Addr).add j) = some u := by
  intro j u h
  have e : (⟨w.heap.size, 0, none⟩ : Addr).add j = ⟨w.heap.size, j, none⟩ := by unfold Addr.add; split <;> simp_all
  rw [e]
  have hj : j < cs.size := by
    have := List.getElem?_eq_some_iff.1 h
    obtain ⟨h1, _⟩ := this
    simpa using h1
  rw [Array.getElem?_toList] at h
  have r := World.rowIs_alloc w cs t (fun i => (cs[i]?).getD default) (fun i hi => by simp [hi])
  have := r.cell hj
  rw [this]
  simp [h]
theorem own_base {w : World} {base base' : Nat} {e : TypeId} {size : Nat} {v : Value} {n : Nat} {xs : List Value} (h : w.ownsRow base e size v n xs) (hb : base' ≤ base) : w.ownsRow base' e size v n xs := by
  refine ⟨h.1, ?_⟩
  rcases h.2 with h2 | ⟨g, cap, cur, h3, h4, h5⟩
  · exact .inl h2
  · exact .inr ⟨g, cap, cur, h3, Nat.le_trans hb h4, h5⟩
theorem MapAt.below {k : Nat} {w w' : World} {B n : Nat} {D : DataW Unit} (h : MapAt w B n D) (hb : Below k w w') (hB : B < k) : MapAt w' B n D := by
  obtain ⟨es, clock, h1, r⟩ := h
  exact ⟨es, clock, (hb.block B hB).trans h1, r⟩
/-- What a slice of Slots that the call owns reads as. -/
theorem own_arr {w : World} {base : Nat} {v : Value} {ts : List Int} {n : Nat} (hn : ts.length = n) (h : w.ownsRow base 40 1 v n (ts.map (Value.int .u64))) : ∃ A cap, v = .slice A n cap ∧ ArrAt w w.heap.size A n (fun i => .int .u64 (ts.getD i 0)) := by
  rcases h.2 with ⟨rfl, rfl⟩ | ⟨g, cap, cur, rfl, hbase, hb, h1, h2, h3, h4⟩
  · exact ⟨none, 0, rfl, fun h => absurd h (Nat.lt_irrefl _)⟩
  · refine ⟨_, cap, rfl, fun _ => ⟨g, 0, rfl, (Array.getElem?_eq_some_iff.1 hb).1, fun i hi => ?_⟩⟩
    rw [Nat.zero_add, h.cellAt i (by omega)]
    simp [List.getD, List.getElem?_eq_getElem (show i < ts.length by omega)]

set_option maxRecDepth 100000 in
set_option maxHeartbeats 1600000 in
theorem report_any (ab B n : Nat) (D : DataW Unit) (f : Int) (w : World) (hc : w.cell? ⟨ab, 3, none⟩ = some (.map (some B))) (hM : MapAt w B n D) (hn : n ≤ 65536) :
    Calls Try.prog 30 #[.pointer (some ⟨ab, 0, none⟩), .int .u64 f] w (RepPost D f w) := by
  obtain ⟨i0, hi, hz0, hz1, hz2⟩ := info_parts Try.info40
  obtain ⟨i1, hi', hz0', hz1', hz2'⟩ := info_parts Try.info51
  have hbl : B < w.heap.size := World.ownsMap.lt hM
  have hal : ab < w.heap.size := by
    have := World.block_lt_of_cell? _ _ hc
    simpa using this
  go_enter Try.func30, Try.ntmps30
  go_wp2_with (first
    | (at_range; refine wpList_range_own _ rfl _ 32 rfl 40 49 law Try.underlying32 _ B n _ rfl hM ?_; intro w0 hrg0 hg0 hs0)
    | go_in)
  go_frame
  have hbel0 : Below w.heap.size w w0 := (Below.refl _ _).grown hg0 (Nat.le_refl _) (fun j hj => by cases hj)
  clear hg0
  go_loopw [5] (fun v wr => ∃ (left : Lit → Bool) (cnt : Nat) (ks : List Int), wr.ranges Try.prog 40 elemP B w.heap.size n D left cnt ∧ ks.length + cnt ≤ Maps.size D ∧
      wr.ownsRow (w.heap.size + 1) 40 1 v ks.length (ks.map (Value.int .u64)) ∧ Coll D f left ks ∧ Below w.heap.size w wr ∧ w.heap.size + 1 ≤ wr.heap.size)
    (fun _ wr => wr.rangeLeft B w.heap.size)
  case atStart =>
    exact ⟨_, _, [], hrg0, by simp, World.ownsRow_nil _ _ _ _, Coll.start D f, hbel0, by omega⟩
  case round =>
    obtain ⟨left, cnt, ks, hrg, hcs, hrow, hC, hbel, hsz⟩ := hrel
    clear hrg0 hs0 hbel0
    have hDn : Maps.size D ≤ n := World.ownsMap.size_le hM
    have HC : Hid (wr.cell? ⟨ab, 3, none⟩ = some (.map (some B))) := (hbel.cell (p := ⟨ab, 3, none⟩) hal).trans hc
    clear hc
    go_wp2_with (first
      | (at_next; refine wpList_next_ranges _ rfl _ rfl 40 law elemP (Value.int .u64) Pr.val invK invV B w.heap.size n _ _ _ rfl hrg ?_ ?_)
      | go_in)
    · intro hc0 hl0
      have hS := hC.sorted hl0
      have hlen : (ks.mergeSort leI).length = ks.length := by simp
      have hMr : MapAt wr B n D := hrg.owns
      have hso := sort_own (w.heap.size + 1) u5 ks wr hrow (by omega)
      obtain ⟨A, cap, rfl, _⟩ := own_arr rfl hrow
      obtain ⟨wo, rfl⟩ : ∃ wo, wo = wr := ⟨wr, rfl⟩
      clear hrg hrow hC hl0
      go_wp2_with (go_at_call 34; refine hso.mono ?_; rintro e w3 ⟨rfl, hrow3, hb3⟩)
      obtain ⟨A', cap', e, hArr⟩ := own_arr hlen hrow3
      cases e
      have hM3 : MapAt w3 B n D := hMr.below hb3 (by omega)
      have hC3 : w3.cell? ⟨ab, 3, none⟩ = some (.map (some B)) := (hb3.cell (p := ⟨ab, 3, none⟩) (by exact Nat.lt_succ_of_lt hal)).trans HC.out
      have hbel3 : Below w.heap.size w w3 := hbel.trans (hb3.mono (Nat.le_succ _))
      have hsz3 : w.heap.size + 1 ≤ w3.heap.size := Nat.le_trans hsz hb3.size
      clear hso hrow3 hb3 hMr HC hbel hsz hM
      generalize ks.mergeSort leI = ts at *
      have hks : ks.length ≤ 65536 := by omega
      generalize ks.length = N at *
      go_loopg [7, 31] N (fun m v7 v31 wr => ∃ (j : Nat) (es : List (Int × Pr)), j ≤ N ∧ m = N - j ∧ v31 = .int .i64 j ∧ wr.ownsRow w3.heap.size 51 7 v7 j (flat es) ∧ es.length = j ∧ es.map (·.1) = ts.take j ∧ (∀ e ∈ es, D.atKey (.int .u64 e.1) zeroP.dat = e.2.dat) ∧ (j = 0 → v7 = .slice none 0 0) ∧ Below w3.heap.size w3 wr)
      case atStart => exact ⟨0, [], Nat.zero_le _, rfl, rfl, World.ownsRow_nil _ _ _ _, rfl, rfl, (fun e he => by cases he), fun _ => rfl, Below.refl _ _⟩
      case round =>
        obtain ⟨j, es, hj, rfl, rfl, hrow, hel, hmap, hat, hnil, hbel⟩ := hrel
        by_cases hlt : j < N
        · obtain ⟨g, o, ea, hg, hcg⟩ := hArr (by omega)
          cases ea
          have hx : (Lit.int .u64 (ts.getD j 0)).wf = true := wf_at hS.wf j
          have hcell : wr.cell? ⟨g, o + j, none⟩ = some (.int .u64 (ts.getD j 0)) := (hbel.cell (p := ⟨g, o + j, none⟩) hg).trans (hcg j hlt)
          have hcm : wr.cell? ⟨ab, 3, none⟩ = some (.map (some B)) := (hbel.cell (p := ⟨ab, 3, none⟩) (by exact Nat.lt_of_lt_of_le hal (Nat.le_trans (Nat.le_succ _) hsz3))).trans hC3
          obtain ⟨v, ps, hrun, hv⟩ := World.ownsMap.lookup (hM3.below hbel (by omega)) law Try.underlying32 (zeroE _) (elemP_val zeroP) (keyOf_int_mk Try.underlying40 hx)
          obtain ⟨p, rfl, hp⟩ := elemP_inv hv
          have hpd : D.atKey (.int .u64 (ts.getD j 0)) zeroP.dat = p.dat := by injection hp
          have HN : Hid ((es ++ [(ts.getD j 0, p)]).map (·.1) = ts.take (j + 1)) := by
            show _ = _
            rw [List.map_append, hmap, List.take_succ_eq_append_getElem (by omega)]
            simp [List.getD, List.getElem?_eq_getElem (show j < ts.length by omega)]
          have HAT : Hid (∀ e ∈ es ++ [(ts.getD j 0, p)], D.atKey (.int .u64 e.1) zeroP.dat = e.2.dat) := by
            intro e he
            rcases List.mem_append.1 he with he | he
            · exact hat e he
            · simp at he; subst he; exact hpd
          clear hv hp hpd hcg hat hmap hArr hnil
          generalize ts.getD j 0 = x at *
          unfold Pr.val at hrun
          go_wp2_with (first
            | (at_builtin; refine wpList_append_own _ rfl _ _ 38 rfl w3.heap.size 51 i1 (.agg #[.int .u64 0, .int .u64 0, .int .u32 0, .int .u32 0, .int .u64 0, .string ⟨#[]⟩, .bool false]) 7 64 Try.underlying38 hi' hz0' hz1' hz2' rfl (by decide) _ _ _ rfl (hrow.alloc _) ⟨wr.heap.size, 0, none⟩ 1 1 (ent (x, p)) rfl rfl (cells_new wr #[.int .u64 x, .int .u64 p.r, .int .u32 p.a, .int .u32 p.b, .int .u64 p.c, .string p.s, .bool p.x] 51) (by simp [ent, Value.oneCell']) (by unfold maxLen at *; omega) (by omega) (by have := hbel.size; simp; omega) ?_; intro v' w4 hown' hg4 hnil4; go_frame)
            | go_in)
          go_roundg (N - (j + 1))
          case measure => omega
          case rel =>
            refine ⟨j + 1, es ++ [(x, p)], by omega, rfl, by go_num, by rw [flat_snoc]; exact hown', by simp [hel], HN.out, HAT.out, (fun h => by omega), ?_⟩
            exact (hbel.alloc hbel.size _).grown hg4 (by have := hbel.size; simp; omega) (fun i hi => (hrow.lt i hi).1)
        · have e : j = N := by omega
          subst e
          rw [← hlen, List.take_length] at hmap
          have H : RepPost D f w (.returned u7) wr := ⟨u7, es, rfl, by rw [hel]; exact own_base hrow (by omega), by rw [hmap]; exact hS, hat, (fun h => hnil (by rw [← hel, h]; rfl)), by omega, hbel3.trans (hbel.mono (by omega))⟩
          clear hrow hat hmap hArr
          go_wp2
          go_ret
          exact H
    · intro x p kl yd yp w2 cnt2 hkey hlk hv hat hrg2 hlt hg2 hs2 hen
      obtain ⟨x', ex, rfl, hwx⟩ := Maps.keyOf_int_inv Try.underlying40 hkey
      obtain rfl : x = x' := by injection ex
      have hrow2 := hrow.kept hg2 (Or.inr (row_ne_low' hrow (Nat.lt_succ_self _)).symm)
      have hbel2 : Below w.heap.size w w2 := hbel.grown hg2 hbel.size (fun j hj => by cases hj; exact Nat.le_refl _)
      have hsz2 : w.heap.size + 1 ≤ w2.heap.size := by omega
      clear hs2 hkey hv hg2
      by_cases hf : f ≤ x
      · have hC2 := hC.take hwx hlk hat hf
        clear hC hat
        go_wp2_with (first
          | (at_builtin; refine wpList_append_own _ rfl _ _ 78 rfl (w.heap.size + 1) 40 i0 (.int .u64 0) 1 8 Try.underlying78 hi hz0 hz1 hz2 rfl (by decide) _ _ _ rfl (hrow2.alloc _) ⟨w2.heap.size, 0, none⟩ 1 1 [.int .u64 x] rfl rfl (cell_one_new _ _ _) (by simp [Value.oneCell']) (by unfold maxLen at *; omega) (by omega) (by simp; omega) ?_; intro v' w3 hown' hg3 hnil3; go_frame)
          | go_in)
        have hrg3 := (hrg2.alloc (.cells #[.int .u64 x] 40)).kept hg3 (row_ne_low' hrow2 (by omega)) (row_ne_low' hrow2 (by omega))
        go_roundw
        case rel =>
          refine ⟨_, cnt2, ks ++ [x], hrg3, by simp; omega, by simpa using hown', hC2, ?_, ?_⟩
          · exact (hbel2.alloc (by omega) _).grown hg3 (by simp; omega) (fun j hj => by have := (hrow2.lt j hj).1; omega)
          · have := hg3.size; simp at this; omega
        case measure => rw [hrg3.left_eq, hrg.left_eq]; exact hlt
      · have hC2 := hC.skip hf
        clear hC hat
        go_wp2
        go_roundw
        case rel => exact ⟨_, cnt2, ks, hrg2, by omega, hrow2, hC2, hbel2, hsz2⟩
        case measure => rw [hrg2.left_eq, hrg.left_eq]; exact hlt
end Go.Proofs.Qxb6600076a
