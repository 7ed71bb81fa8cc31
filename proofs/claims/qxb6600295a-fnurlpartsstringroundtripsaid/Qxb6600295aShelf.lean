/-
  The seat's own text: strings.Builder at this program: String by the shelf's contract; copyCheck and WriteString walked here (the loader refuses a way of copyCheck, so the shelf's body is not this one's).
-/
import Derived.Shelf.Lay
import Derived.Shelf.Strings.Builder1
import Derived.Test.Qxb6600295aProg
namespace Go.Proofs.Qxb6600295a
open Go.Shelf Go.RowKit

shelf_lay Lays.n169 Nm 169 at Try as Try.lays169
theorem Try.extra169 : Builder.Extra Try.prog Try.lays169_ren where
  sizeBuilder := by kernel_rfl
  liesBuilder := by kernel_rfl
  t5 := Try.underlying5
  a5 := Try.isAgg5
  z5 := Try.sizeOf5
  v5 := Try.zeroValue5
  infoByte := by kernel_rfl
  cellsByte := by kernel_rfl
  sizeByte := by kernel_rfl
  neB5 := by decide
theorem to_string (B b : Nat) (l : List UInt8) (w : World) (h : Lib.IsBuilder 40 5 B b (Lib.byteCells l) w) (hBw : B ≤ w.heap.size) :
    Calls Try.prog 24 #[.pointer (some ⟨b, 0, none⟩)] w fun e w' => e = .returned (.string ⟨l.toArray⟩) ∧ Below B w w' :=
  Any.Builder_String_any Try.lays169 Try.extra169 B b l w h hBw

theorem Try.builder_size : (Try.prog.info? 40).map (·.size) = some 2 := Try.extra169.sizeBuilder
theorem Try.byte_info : (Try.prog.info? 5).map (fun i => (i.zero, i.size, i.bytes)) = some (some (.int .u8 0), 1, 1) := by kernel_rfl

set_option maxHeartbeats 1000000 in
theorem check_used (b : Nat) (w : World) (h0 : w.cell? ⟨b, 0, none⟩ = some (.pointer (some ⟨b, 0, none⟩))) :
    Calls Try.prog 26 #[.pointer (some ⟨b, 0, none⟩)] w fun e w' => e = .returned (.tuple #[]) ∧ w' = w := by
  obtain ⟨j, hj, _⟩ := Option.map_eq_some_iff.1 Try.builder_size
  go_enter Try.func26, Try.ntmps26
  go_wp2
  rw [Lib.run_neq_ptr_same w _ Try.underlying37 hj]
  go_wp2
  go_end0
  exact ⟨rfl, rfl⟩

theorem conv_to {j : TypeInfo} (a : Addr) (w : World) {e : TypeId} {cells : Nat} (ht : Try.prog.info? 40 = some j) (hj : j.size ≠ 0) (hsh : w.shape? a.block = some (e, cells)) (hoff : a.off < cells) :
    (convert 37 47 (.pointer (some a))).run Try.prog w = .ok (.pointer (some a)) w := by
  simp [convert, run_underlying Try.underlying37, run_underlying Try.underlying47]
  change (Bind.bind (underlying 37) _).run _ _ = _
  simp [run_underlying Try.underlying37, run_underlying Try.underlying47, Conv.seenAt, viewAt, cellsIn, hsh, sizeOf, typeInfo, ht, hj]
  intro h
  omega
theorem conv_from {j : TypeInfo} (a : Addr) (w : World) {e : TypeId} {cells : Nat} (ht : Try.prog.info? 40 = some j) (hsh : w.shape? a.block = some (e, cells)) (hlies : liesAt Try.prog Try.prog.depth e (cells / Try.prog.cellsOf e) a.off 40 1 = true) :
    (convert 47 37 (.pointer (some a))).run Try.prog w = .ok (.pointer (some a)) w := by
  simp [convert, run_underlying Try.underlying37, run_underlying Try.underlying47]
  change (Bind.bind (underlying 47) _).run _ _ = _
  simp [run_underlying Try.underlying37, run_underlying Try.underlying47, Conv.seenAt, viewAt, variablesAt, hlies, hsh, sizeOf, typeInfo, ht]

set_option maxHeartbeats 1000000 in
theorem check_fresh (b : Nat) (w : World) (h0 : w.cell? ⟨b, 0, none⟩ = some (.pointer none)) (hsh : w.shape? b = some (40, 2)) (hfz : w.frozen? ⟨b, 0, none⟩ = false) :
    Calls Try.prog 26 #[.pointer (some ⟨b, 0, none⟩)] w fun e w' => e = .returned (.tuple #[]) ∧ w' = w.setCell ⟨b, 0, none⟩ (.pointer (some ⟨b, 0, none⟩)) := by
  obtain ⟨j, hj, hjs⟩ := Option.map_eq_some_iff.1 Try.builder_size
  go_enter Try.func26, Try.ntmps26
  go_wp2
  rw [conv_to ⟨b, 0, none⟩ w hj (by rw [hjs]; decide) hsh (Nat.zero_lt_succ 1)]
  simp only [Result.andThen]
  rw [Oper.upon_value]
  go_wp2
  rw [run_callFunc_extern Try.func27 (by kernel_rfl) (by kernel_rfl) (by kernel_rfl) (e := Extern.AbiNoEscape.same) (by kernel_rfl)]
  rw [Lib.run_noEscape]
  simp only [Result.andThen]
  rw [Oper.upon_value]
  go_wp2
  rw [conv_from ⟨b, 0, none⟩ w hj hsh Try.extra169.liesBuilder]
  simp only [Result.andThen]
  rw [Oper.upon_value]
  go_wp2
  go_end0
  exact ⟨rfl, rfl⟩

theorem copy_check (B b : Nat) (bs : List Value) (w : World) (h : Lib.IsBuilder 40 5 B b bs w) :
    Calls Try.prog 26 #[.pointer (some ⟨b, 0, none⟩)] w fun e w' => e = .returned (.tuple #[]) ∧ (Lib.BuilderAt 40 5 B b (.pointer (some ⟨b, 0, none⟩)) bs w' ∧ Below B w w') := by
  rcases h with h | h
  · refine (check_fresh b w h.cell0 h.shape h.frozen0).mono ?_
    rintro e w' ⟨rfl, rfl⟩
    exact ⟨rfl, h.used _, (Below.refl B w).setCell (p := ⟨b, 0, none⟩) h.1 _⟩
  · refine (check_used b w h.cell0).mono ?_
    rintro e w' ⟨rfl, rfl⟩
    exact ⟨rfl, h, Below.refl B _⟩

set_option maxHeartbeats 2000000 in
theorem write_string (B b : Nat) (bs : List Value) (s : ByteArray) (w : World) (h : Lib.IsBuilder 40 5 B b bs w) (hlen : bs.length + s.size ≤ 140737488355328) (hBw : B ≤ w.heap.size) :
    Calls Try.prog 23 #[.pointer (some ⟨b, 0, none⟩), .string s] w fun e w' => e = .returned (.tuple #[.int .i64 s.size, .nilIface]) ∧ (Lib.BuilderAt 40 5 B b (.pointer (some ⟨b, 0, none⟩)) (bs ++ Lib.strCells s) w' ∧ Below B w w') := by
  obtain ⟨i0, hi, hz0, hz1, hz2⟩ := info_parts Try.byte_info
  go_enter Try.func23, Try.ntmps23
  go_wp2_with (go_at_call 26; refine (copy_check B b bs _ h).mono ?_)
  rintro e w1 ⟨rfl, h1, hb1⟩
  obtain ⟨hB, v, hbk, hown, hne⟩ := h1
  have c0 : w1.cell? ⟨b, 0, none⟩ = some (.pointer (some ⟨b, 0, none⟩)) := by rw [Lib.cell_of_heap hbk]; rfl
  have c1 : w1.cell? ⟨b, 1, none⟩ = some v := by rw [Lib.cell_of_heap hbk]; rfl
  go_wp2_with (at_builtin; refine Lib.wpList_append_own_string _ rfl _ _ 38 9 rfl B 5 i0 Try.underlying38 Try.underlying9 hi hz0 hz1 hz2 _ _ _ rfl hown s rfl ?c3 ?c4 ?c5 ?_)
  case c3 => unfold maxLen; omega
  case c4 => omega
  case c5 => have := hb1.size; omega
  intro v' w2 hown' hgrow _
  have hlt : b < w1.heap.size := (Array.getElem?_eq_some_iff.1 hbk).1
  have hb2 : w2.heap[b]? = some (.cells #[.pointer (some ⟨b, 0, none⟩), v] 40 (0, 0)) := by
    rw [hgrow.block b hlt (fun e => hne e.symm)]
    exact hbk
  have d1 : w2.cell? ⟨b, 1, none⟩ = some v := by rw [Lib.cell_of_heap hb2]; rfl
  have f1 : w2.frozen? ⟨b, 1, none⟩ = false := Lib.frozen_of_heap hb2 1
  obtain ⟨ao, n', cap, rfl⟩ : ∃ ao n' cap, v' = .slice ao n' cap := by
    rcases hown'.2 with ⟨hv, _⟩ | ⟨g, cap, cur, hv, _⟩
    · exact ⟨_, _, _, hv⟩
    · exact ⟨_, _, _, hv⟩
  go_wp2
  go_ret2
  refine ⟨rfl, ?_, ?_⟩
  · exact Lib.BuilderAt.put (T := 40) (e := 5) hB hb2 (bs' := bs ++ Lib.strCells s) (by simpa [Lib.strCells_length] using hown') (by decide)
  · exact (hb1.grown hgrow (by have := hb1.size; omega) (fun k hk => (hown.lt k hk).1)).setCell (p := ⟨b, 1, none⟩) hB _
end Go.Proofs.Qxb6600295a
