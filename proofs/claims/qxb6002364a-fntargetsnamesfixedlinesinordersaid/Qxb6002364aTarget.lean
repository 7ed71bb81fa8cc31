/-
  The seat's own text: the walk of target.
-/
import Derived.Test.Qxb6002364aBld
namespace Go.Proofs.Qxb6002364a
open Go.RowKit Go.Deep

set_option maxHeartbeats 800000 in
theorem target_yes (E : Env) (w : World) (s k l c : Nat) (ws : List Int) (os ss : List Value) (rows : List (Nat × List Int)) (wv ov sv : Value) (hB : Bld E w s k l c ws os ss rows wv ov sv) (hl : l ≤ 1000000) (hc : c ≤ 1000000) (hcomp : compAt E.Cs c = true) :
    Calls Try.prog 18 #[.pointer (some ⟨s, 0, none⟩)] w fun e w' => e = .returned (.agg #[.int .i64 (lineAt E.Lns l), .iface 72 (.agg #[.int .i64 0])]) ∧ Bld E w' s k (l + 1) (c + 1) ws os ss rows wv ov sv ∧ Below s w w' := by
  have hA := hB.alloc (.cells #[.int .i64 0, .nilIface] 55)
  have HA : Hid (Bld E (w.alloc (.cells #[.int .i64 0, .nilIface] 55)) s k l c ws os ss rows wv ov sv) := hA
  clear hA
  have hss := hB.st.lt
  have HB : Hid (Bld E w s k l c ws os ss rows wv ov sv) := hB
  clear hB
  go_enter Try.func18, Try.ntmps18
  go_wp2_with fail
  refine (line_any s E.lc l E.lA E.Lns s _ _ wv ov sv _ _ _ HA.out.st HA.out.la hl).mono ?_
  rintro e w2 ⟨rfl, hs2, ho2⟩
  have HB2 : Hid (Bld E w2 s k (l + 1) c ws os ss rows wv ov sv) := HA.out.only ho2 (by simpa using hs2)
  clear hs2
  go_wp2_with fail
  refine (comp_any s E.cc c E.cA E.Cs s _ _ wv ov sv _ _ w2 HB2.out.st HB2.out.ca hc).mono ?_
  rintro e w3 ⟨rfl, hs3, ho3⟩
  rw [hcomp]
  have HB3 : Hid (Bld E w3 s k (l + 1) (c + 1) ws os ss rows wv ov sv) := HB2.out.only ho3 (by simpa using hs3)
  have hblk : w3.heap[w.heap.size]? = some (.cells #[.int .i64 0, .nilIface] 55) := by
    rw [ho3.block _ (by omega), ho2.block _ (by omega)]
    exact blk_alloc_new _ _
  have hrow : w3.rowIs w.heap.size 55 2 (fun i => if i = 0 then .int .i64 0 else .nilIface) := ⟨_, hblk, rfl, fun i hi => by match i, hi with | 0, _ => rfl | 1, _ => rfl⟩
  have hnb : s < w.heap.size ∧ wv.ownBlock ≠ some w.heap.size ∧ ov.ownBlock ≠ some w.heap.size ∧ sv.ownBlock ≠ some w.heap.size ∧ ∀ p ∈ rows, p.1 ≠ w.heap.size := HB.out.new (Nat.le_refl _)
  have HN : Hid (s < w.heap.size ∧ wv.ownBlock ≠ some w.heap.size ∧ ov.ownBlock ≠ some w.heap.size ∧ sv.ownBlock ≠ some w.heap.size ∧ ∀ p ∈ rows, p.1 ≠ w.heap.size) := hnb
  have HR : Hid (w3.rowIs w.heap.size 55 2 (fun i => if i = 0 then .int .i64 0 else .nilIface)) := hrow
  clear hnb hrow
  have hc0 : w3.cell? ⟨w.heap.size, 0, none⟩ = some (.int .i64 0) := by simp [World.cell?, hblk]
  have hc1 : w3.cell? ⟨w.heap.size, 1, none⟩ = some .nilIface := by simp [World.cell?, hblk]
  have hf0 : w3.frozen? ⟨w.heap.size, 0, none⟩ = false := by simp [World.frozen?, hblk]
  have hf1 : w3.frozen? ⟨w.heap.size, 1, none⟩ = false := by simp [World.frozen?, hblk]
  clear hs3 hblk hcomp
  go_wp2_with fail
  have r0 : ((w3.setCell ⟨w.heap.size, 0, none⟩ (.int .i64 (lineAt E.Lns l))).setCell ⟨w.heap.size, 1, none⟩ (.iface 72 (.agg #[.int .i64 0]))).cell? ⟨w.heap.size, 0, none⟩ = some (.int .i64 (lineAt E.Lns l)) := ((HR.out.set 0 _).set 1 _).cell (i := 0) (by omega)
  have r1 : ((w3.setCell ⟨w.heap.size, 0, none⟩ (.int .i64 (lineAt E.Lns l))).setCell ⟨w.heap.size, 1, none⟩ (.iface 72 (.agg #[.int .i64 0]))).cell? ⟨w.heap.size, 1, none⟩ = some (.iface 72 (.agg #[.int .i64 0])) := ((HR.out.set 0 _).set 1 _).cell (i := 1) (by omega)
  refine bodyPost_ret (v := .agg #[.int .i64 (lineAt E.Lns l), .iface 72 (.agg #[.int .i64 0])]) (by simp [results, Try.results18, go_sem, r0, r1]) rfl ⟨rfl, ?_, ?_⟩
  · exact (HB3.out.store _ HN.out).store _ HN.out
  · exact ((((Below.refl s w).alloc (by omega) _).trans (ho2.below.trans ho3.below)).setCell (by show s ≤ w.heap.size; omega) _).setCell (by show s ≤ w.heap.size; omega) _

set_option maxHeartbeats 800000 in
theorem target_no (E : Env) (w : World) (s k l c : Nat) (ws : List Int) (os ss : List Value) (rows : List (Nat × List Int)) (wv ov sv : Value) (hB : Bld E w s k l c ws os ss rows wv ov sv) (hl : l ≤ 1000000) (hc : c ≤ 1000000) (hw : ws.length ≤ 1000000) (hcomp : compAt E.Cs c = false) :
    Calls Try.prog 18 #[.pointer (some ⟨s, 0, none⟩)] w fun e w' => e = .returned (.agg #[.int .i64 (lineAt E.Lns l), .nilIface]) ∧ (∃ wv', Bld E w' s k (l + 1) (c + 1) (ws ++ [lineAt E.Lns l]) os ss rows wv' ov sv) ∧ Below s w w' := by
  have HA : Hid (Bld E (w.alloc (.cells #[.int .i64 0, .nilIface] 55)) s k l c ws os ss rows wv ov sv) := hB.alloc (.cells #[.int .i64 0, .nilIface] 55)
  have hss := hB.st.lt
  have HB : Hid (Bld E w s k l c ws os ss rows wv ov sv) := hB
  clear hB
  obtain ⟨i0, hi, hi0, hi1, hi2⟩ := info_parts Try.info3
  go_enter Try.func18, Try.ntmps18
  go_wp2_with fail
  refine (line_any s E.lc l E.lA E.Lns s _ _ wv ov sv _ _ _ HA.out.st HA.out.la hl).mono ?_
  rintro e w2 ⟨rfl, hs2, ho2⟩
  have HB2 : Hid (Bld E w2 s k (l + 1) c ws os ss rows wv ov sv) := HA.out.only ho2 (by simpa using hs2)
  clear hs2
  go_wp2_with fail
  refine (comp_any s E.cc c E.cA E.Cs s _ _ wv ov sv _ _ w2 HB2.out.st HB2.out.ca hc).mono ?_
  rintro e w3 ⟨rfl, hs3, ho3⟩
  rw [hcomp]
  have HB3 : Hid (Bld E w3 s k (l + 1) (c + 1) ws os ss rows wv ov sv) := HB2.out.only ho3 (by simpa using hs3)
  have hblk : w3.heap[w.heap.size]? = some (.cells #[.int .i64 0, .nilIface] 55) := by
    rw [ho3.block _ (by omega), ho2.block _ (by omega)]
    exact blk_alloc_new _ _
  have HBK : Hid (w3.heap[w.heap.size]? = some (.cells #[.int .i64 0, .nilIface] 55)) := hblk
  have HN : Hid (s < w.heap.size ∧ wv.ownBlock ≠ some w.heap.size ∧ ov.ownBlock ≠ some w.heap.size ∧ sv.ownBlock ≠ some w.heap.size ∧ ∀ p ∈ rows, p.1 ≠ w.heap.size) := HB.out.new (Nat.le_refl _)
  have c6 : w3.cell? ⟨s, 6, none⟩ = some wv := HB3.out.st.cell (i := 6) (by omega)
  have hsz : w3.heap.size = w.heap.size + 1 := by rw [ho3.size, ho2.size]; simp
  have HSZ : Hid (w3.heap.size = w.heap.size + 1) := hsz
  have hgt : s < w3.heap.size := by omega
  clear hs3 hblk hcomp hsz
  generalize hz : lineAt E.Lns l = z at *
  have HZ : Hid (lineAt E.Lns l = z) := hz
  clear hz
  go_wp2_with (at_builtin; go_must (refine wpList_append_lies _ rfl _ _ 23 rfl (s + 1) 3 i0 (.int .i64 0) 1 8 Try.underlying23 hi hi0 hi1 hi2 rfl (by omega) wv ws.length (ws.map (Value.int .i64)) rfl (HB3.out.want.alloc _) ⟨w3.heap.size, 0, none⟩ 1 1 [.int .i64 z] rfl rfl (cell_one_new _ _ _) ?c1 (by omega) (by unfold maxLen; omega) (by omega) (by simp; omega) (w3.heap.size + 1) (by simp) ?c2))
  case c1 => intro u hu; simp at hu; subst hu; rfl
  case c2 =>
    intro g cap w4 hown hgrow hat hglt
    obtain ⟨hst4, hB5⟩ := HB3.out.wanted hown hgrow hat
    have c6' : w4.cell? ⟨s, 6, none⟩ = some wv := hst4.cell (i := 6) (by omega)
    have f6 := hst4.frozen 6
    have hsz := HSZ.out
    have hblk4 : w4.heap[w.heap.size]? = some (.cells #[.int .i64 0, .nilIface] 55) := by
      rw [hgrow.block w.heap.size (by simp; omega) (fun e => HN.out.2.1 e.symm)]
      exact (blk_alloc_lt _ _ _ (by omega)).trans HBK.out
    have hc0 : w4.cell? ⟨w.heap.size, 0, none⟩ = some (.int .i64 0) := by simp [World.cell?, hblk4]
    have hc1 : w4.cell? ⟨w.heap.size, 1, none⟩ = some .nilIface := by simp [World.cell?, hblk4]
    have hf0 : w4.frozen? ⟨w.heap.size, 0, none⟩ = false := by simp [World.frozen?, hblk4]
    have hf1 : w4.frozen? ⟨w.heap.size, 1, none⟩ = false := by simp [World.frozen?, hblk4]
    have HR : Hid ((w4.setCell ⟨s, 6, none⟩ (.slice (some ⟨g, 0, none⟩) (ws.length + 1) cap)).rowIs w.heap.size 55 2 (fun i => if i = 0 then .int .i64 0 else .nilIface)) :=
      World.rowIs.setOther ⟨_, hblk4, rfl, fun i hi => by match i, hi with | 0, _ => rfl | 1, _ => rfl⟩ (by show w.heap.size ≠ s; omega) _
    have HB5 : Hid (Bld E (w4.setCell ⟨s, 6, none⟩ (.slice (some ⟨g, 0, none⟩) (ws.length + 1) cap)) s k (l + 1) (c + 1) (ws ++ [z]) os ss rows (.slice (some ⟨g, 0, none⟩) (ws.length + 1) cap) ov sv) := hB5
    have hgn : g ≠ w.heap.size := by
      rcases hat with hat | hat
      · intro e; rw [e] at hat; exact HN.out.2.1 hat
      · omega
    have hbel : Below s w w4 := (((Below.refl s w).alloc (by omega) _).trans (ho2.below.trans ho3.below)).trans (((Below.refl s w3).alloc (by omega) _).grown hgrow (by simp; omega) (fun k hk => by have := (HB3.out.want.lt k hk).1; omega))
    clear hown hgrow hat hst4 hB5 hblk4 hsz
    go_wp2_with fail
    have r0 : (((w4.setCell ⟨s, 6, none⟩ (.slice (some ⟨g, 0, none⟩) (ws.length + 1) cap)).setCell ⟨w.heap.size, 0, none⟩ (.int .i64 z)).setCell ⟨w.heap.size, 1, none⟩ .nilIface).cell? ⟨w.heap.size, 0, none⟩ = some (.int .i64 z) := ((HR.out.set 0 _).set 1 _).cell (i := 0) (by omega)
    have r1 : (((w4.setCell ⟨s, 6, none⟩ (.slice (some ⟨g, 0, none⟩) (ws.length + 1) cap)).setCell ⟨w.heap.size, 0, none⟩ (.int .i64 z)).setCell ⟨w.heap.size, 1, none⟩ .nilIface).cell? ⟨w.heap.size, 1, none⟩ = some .nilIface := ((HR.out.set 0 _).set 1 _).cell (i := 1) (by omega)
    have hnb : s < w.heap.size ∧ (Value.slice (some ⟨g, 0, none⟩) (ws.length + 1) cap).ownBlock ≠ some w.heap.size ∧ ov.ownBlock ≠ some w.heap.size ∧ sv.ownBlock ≠ some w.heap.size ∧ ∀ p ∈ rows, p.1 ≠ w.heap.size :=
      ⟨HN.out.1, by simp [Value.ownBlock]; exact hgn, HN.out.2.2⟩
    refine bodyPost_ret (v := .agg #[.int .i64 z, .nilIface]) (by simp [results, Try.results18, go_sem, r0, r1]) rfl ⟨by rw [HZ.out], ⟨.slice (some ⟨g, 0, none⟩) (ws.length + 1) cap, ?_⟩, ?_⟩
    · rw [HZ.out]
      exact (HB5.out.store _ hnb).store _ hnb
    · exact ((hbel.setCell (by show s ≤ s; omega) _).setCell (by show s ≤ w.heap.size; omega) _).setCell (by show s ≤ w.heap.size; omega) _
end Go.Proofs.Qxb6002364a
