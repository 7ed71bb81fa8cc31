/-
  The seat's own text: the walk of URLParts.String.
-/
import Derived.Test.Qxb6600295aBase
namespace Go.Proofs.Qxb6600295a
open Go.RowKit Go.Deep Plain
set_option linter.unusedSimpArgs false

def str (l : List UInt8) : Value := .string ⟨l.toArray⟩
/-- A URLParts as a value. -/
def pv (s0 s1 s2 s3 s4 s5 : ByteArray) (b6 b7 b8 b9 : Bool) : Value := .agg #[.string s0, .string s1, .string s2, .string s3, .string s4, .string s5, .bool b6, .bool b7, .bool b8, .bool b9]
def pF (s0 s1 s2 s3 s4 s5 : ByteArray) (b6 b7 b8 b9 : Bool) : Nat → Value
  | 0 => .string s0
  | 1 => .string s1
  | 2 => .string s2
  | 3 => .string s3
  | 4 => .string s4
  | 5 => .string s5
  | 6 => .bool b6
  | 7 => .bool b7
  | 8 => .bool b8
  | _ => .bool b9

def TextPost (l : List UInt8) (w : World) (e : Ending) (w' : World) : Prop := e = .returned (.string ⟨l.toArray⟩) ∧ Below w.heap.size w w'

theorem bytes_app (a b : ByteArray) : bytesOf (a ++ b) = bytesOf a ++ bytesOf b := by
  unfold bytesOf
  rw [ByteArray.data_append, Array.toList_append]

theorem len1 (c : UInt8) : (⟨#[c]⟩ : ByteArray).size = 1 := rfl
theorem len3 (a b c : UInt8) : (⟨#[a, b, c]⟩ : ByteArray).size = 3 := rfl

/-- The parts' box lies in block w's size, the builder behind it, holding acc. -/
structure St (s0 s1 s2 s3 s4 s5 : ByteArray) (b6 b7 b8 b9 : Bool) (w wr : World) (acc : List UInt8) : Prop where
  bld : Lib.IsBuilder 40 5 (w.heap.size + 1) (w.heap.size + 1) (Lib.byteCells acc) wr
  row : wr.rowIs w.heap.size 24 10 (pF s0 s1 s2 s3 s4 s5 b6 b7 b8 b9)
  below : Below w.heap.size w wr
  size : w.heap.size + 1 ≤ wr.heap.size

section
variable {s0 s1 s2 s3 s4 s5 : ByteArray} {b6 b7 b8 b9 : Bool} {w wr : World} {acc : List UInt8}
theorem St.start (s0 s1 s2 s3 s4 s5 : ByteArray) (b6 b7 b8 b9 : Bool) (w : World) : St s0 s1 s2 s3 s4 s5 b6 b7 b8 b9 w ((w.alloc (.cells #[.string s0, .string s1, .string s2, .string s3, .string s4, .string s5, .bool b6, .bool b7, .bool b8, .bool b9] 24)).alloc (.cells #[.pointer none, .slice none 0 0] 40)) [] := by
  have hr := World.rowIs_alloc w #[.string s0, .string s1, .string s2, .string s3, .string s4, .string s5, .bool b6, .bool b7, .bool b8, .bool b9] 24 (pF s0 s1 s2 s3 s4 s5 b6 b7 b8 b9) (fun i hi => by match i, hi with | 0, _ | 1, _ | 2, _ | 3, _ | 4, _ | 5, _ | 6, _ | 7, _ | 8, _ | 9, _ => rfl)
  refine ⟨?_, hr.alloc _, ((Below.refl _ w).alloc (Nat.le_refl _) _).alloc (by simp) _, by simp⟩
  have := Lib.fresh_isBuilder 40 5 (w.alloc (.cells #[.string s0, .string s1, .string s2, .string s3, .string s4, .string s5, .bool b6, .bool b7, .bool b8, .bool b9] 24))
  rw [show (w.alloc (.cells #[.string s0, .string s1, .string s2, .string s3, .string s4, .string s5, .bool b6, .bool b7, .bool b8, .bool b9] 24)).heap.size = w.heap.size + 1 from by simp] at this
  exact this
theorem St.write (h : St s0 s1 s2 s3 s4 s5 b6 b7 b8 b9 w wr acc) (s : ByteArray) (hl : acc.length + s.size ≤ 100000000) :
    Calls Try.prog 23 #[.pointer (some ⟨w.heap.size + 1, 0, none⟩), .string s] wr fun e w' => e = .returned (.tuple #[.int .i64 s.size, .nilIface]) ∧ St s0 s1 s2 s3 s4 s5 b6 b7 b8 b9 w w' (acc ++ bytesOf s) := by
  refine (write_string (w.heap.size + 1) (w.heap.size + 1) (Lib.byteCells acc) s wr h.bld (by rw [Lib.byteCells_length]; omega) h.size).mono ?_
  rintro e w' ⟨rfl, hb, hbel⟩
  refine ⟨rfl, ?_, h.row.of_block (hbel.block _ (by omega)), h.below.trans (hbel.mono (by omega)), Nat.le_trans h.size hbel.size⟩
  rw [Lib.byteCells_append]
  exact .inr hb
theorem St.done (h : St s0 s1 s2 s3 s4 s5 b6 b7 b8 b9 w wr acc) :
    Calls Try.prog 24 #[.pointer (some ⟨w.heap.size + 1, 0, none⟩)] wr (TextPost acc w) := by
  refine (to_string (w.heap.size + 1) (w.heap.size + 1) acc wr h.bld h.size).mono ?_
  rintro e w' ⟨rfl, hbel⟩
  exact ⟨rfl, h.below.trans (hbel.mono (by omega))⟩
end

set_option maxHeartbeats 1600000 in
theorem text_any (s0 s1 s2 s3 s4 s5 : ByteArray) (b6 b7 b8 b9 : Bool) (w : World) (h0 : s0.size ≤ 1048576) (h1 : s1.size ≤ 1048576) (h2 : s2.size ≤ 1048576) (h3 : s3.size ≤ 1048576) (h4 : s4.size ≤ 1048576) (h5 : s5.size ≤ 1048576) :
    Calls Try.prog 11 #[.agg #[.string s0, .string s1, .string s2, .string s3, .string s4, .string s5, .bool b6, .bool b7, .bool b8, .bool b9]] w (TextPost (text ⟨bytesOf s0, bytesOf s1, bytesOf s2, bytesOf s3, bytesOf s4, bytesOf s5, b6, b7, b8, b9⟩) w) := by
  have hS := St.start s0 s1 s2 s3 s4 s5 b6 b7 b8 b9 w
  go_enter Try.func11, Try.ntmps11
  cases b6 with
  | true =>
    cases b7 with
    | true =>
      cases b8 with
      | true =>
        cases b9 with
        | true =>
          go_wp2_with fail
          generalize (w.alloc (.cells #[.string s0, .string s1, .string s2, .string s3, .string s4, .string s5, .bool true, .bool true, .bool true, .bool true] 24)).alloc (.cells #[.pointer none, .slice none 0 0] 40) = w0 at *
          refine (hS.write _ (by simp [bytes_app, bytes_len, ByteArray.size_append, len1, len3]; omega)).mono ?_
          clear hS
          rintro e w1 ⟨rfl, hS⟩
          have c0 : w1.cell? ⟨w.heap.size, 0, none⟩ = some (.string s0) := hS.row.cell (i := 0) (by omega)
          have c1 : w1.cell? ⟨w.heap.size, 1, none⟩ = some (.string s1) := hS.row.cell (i := 1) (by omega)
          have c2 : w1.cell? ⟨w.heap.size, 2, none⟩ = some (.string s2) := hS.row.cell (i := 2) (by omega)
          have c3 : w1.cell? ⟨w.heap.size, 3, none⟩ = some (.string s3) := hS.row.cell (i := 3) (by omega)
          have c4 : w1.cell? ⟨w.heap.size, 4, none⟩ = some (.string s4) := hS.row.cell (i := 4) (by omega)
          have c5 : w1.cell? ⟨w.heap.size, 5, none⟩ = some (.string s5) := hS.row.cell (i := 5) (by omega)
          have c6 : w1.cell? ⟨w.heap.size, 6, none⟩ = some (.bool true) := hS.row.cell (i := 6) (by omega)
          have c7 : w1.cell? ⟨w.heap.size, 7, none⟩ = some (.bool true) := hS.row.cell (i := 7) (by omega)
          have c8 : w1.cell? ⟨w.heap.size, 8, none⟩ = some (.bool true) := hS.row.cell (i := 8) (by omega)
          have c9 : w1.cell? ⟨w.heap.size, 9, none⟩ = some (.bool true) := hS.row.cell (i := 9) (by omega)
          go_wp2_with fail
          clear c0 c1 c2 c3 c4 c5 c6 c7 c8 c9
          refine (hS.write _ (by simp [bytes_app, bytes_len, ByteArray.size_append, len1, len3]; omega)).mono ?_
          clear hS
          rintro e w2 ⟨rfl, hS⟩
          have c0 : w2.cell? ⟨w.heap.size, 0, none⟩ = some (.string s0) := hS.row.cell (i := 0) (by omega)
          have c1 : w2.cell? ⟨w.heap.size, 1, none⟩ = some (.string s1) := hS.row.cell (i := 1) (by omega)
          have c2 : w2.cell? ⟨w.heap.size, 2, none⟩ = some (.string s2) := hS.row.cell (i := 2) (by omega)
          have c3 : w2.cell? ⟨w.heap.size, 3, none⟩ = some (.string s3) := hS.row.cell (i := 3) (by omega)
          have c4 : w2.cell? ⟨w.heap.size, 4, none⟩ = some (.string s4) := hS.row.cell (i := 4) (by omega)
          have c5 : w2.cell? ⟨w.heap.size, 5, none⟩ = some (.string s5) := hS.row.cell (i := 5) (by omega)
          have c6 : w2.cell? ⟨w.heap.size, 6, none⟩ = some (.bool true) := hS.row.cell (i := 6) (by omega)
          have c7 : w2.cell? ⟨w.heap.size, 7, none⟩ = some (.bool true) := hS.row.cell (i := 7) (by omega)
          have c8 : w2.cell? ⟨w.heap.size, 8, none⟩ = some (.bool true) := hS.row.cell (i := 8) (by omega)
          have c9 : w2.cell? ⟨w.heap.size, 9, none⟩ = some (.bool true) := hS.row.cell (i := 9) (by omega)
          go_wp2_with fail
          clear c0 c1 c2 c3 c4 c5 c6 c7 c8 c9
          refine (hS.write _ (by simp [bytes_app, bytes_len, ByteArray.size_append, len1, len3]; omega)).mono ?_
          clear hS
          rintro e w3 ⟨rfl, hS⟩
          have c0 : w3.cell? ⟨w.heap.size, 0, none⟩ = some (.string s0) := hS.row.cell (i := 0) (by omega)
          have c1 : w3.cell? ⟨w.heap.size, 1, none⟩ = some (.string s1) := hS.row.cell (i := 1) (by omega)
          have c2 : w3.cell? ⟨w.heap.size, 2, none⟩ = some (.string s2) := hS.row.cell (i := 2) (by omega)
          have c3 : w3.cell? ⟨w.heap.size, 3, none⟩ = some (.string s3) := hS.row.cell (i := 3) (by omega)
          have c4 : w3.cell? ⟨w.heap.size, 4, none⟩ = some (.string s4) := hS.row.cell (i := 4) (by omega)
          have c5 : w3.cell? ⟨w.heap.size, 5, none⟩ = some (.string s5) := hS.row.cell (i := 5) (by omega)
          have c6 : w3.cell? ⟨w.heap.size, 6, none⟩ = some (.bool true) := hS.row.cell (i := 6) (by omega)
          have c7 : w3.cell? ⟨w.heap.size, 7, none⟩ = some (.bool true) := hS.row.cell (i := 7) (by omega)
          have c8 : w3.cell? ⟨w.heap.size, 8, none⟩ = some (.bool true) := hS.row.cell (i := 8) (by omega)
          have c9 : w3.cell? ⟨w.heap.size, 9, none⟩ = some (.bool true) := hS.row.cell (i := 9) (by omega)
          go_wp2_with fail
          clear c0 c1 c2 c3 c4 c5 c6 c7 c8 c9
          refine (hS.write _ (by simp [bytes_app, bytes_len, ByteArray.size_append, len1, len3]; omega)).mono ?_
          clear hS
          rintro e w4 ⟨rfl, hS⟩
          have c0 : w4.cell? ⟨w.heap.size, 0, none⟩ = some (.string s0) := hS.row.cell (i := 0) (by omega)
          have c1 : w4.cell? ⟨w.heap.size, 1, none⟩ = some (.string s1) := hS.row.cell (i := 1) (by omega)
          have c2 : w4.cell? ⟨w.heap.size, 2, none⟩ = some (.string s2) := hS.row.cell (i := 2) (by omega)
          have c3 : w4.cell? ⟨w.heap.size, 3, none⟩ = some (.string s3) := hS.row.cell (i := 3) (by omega)
          have c4 : w4.cell? ⟨w.heap.size, 4, none⟩ = some (.string s4) := hS.row.cell (i := 4) (by omega)
          have c5 : w4.cell? ⟨w.heap.size, 5, none⟩ = some (.string s5) := hS.row.cell (i := 5) (by omega)
          have c6 : w4.cell? ⟨w.heap.size, 6, none⟩ = some (.bool true) := hS.row.cell (i := 6) (by omega)
          have c7 : w4.cell? ⟨w.heap.size, 7, none⟩ = some (.bool true) := hS.row.cell (i := 7) (by omega)
          have c8 : w4.cell? ⟨w.heap.size, 8, none⟩ = some (.bool true) := hS.row.cell (i := 8) (by omega)
          have c9 : w4.cell? ⟨w.heap.size, 9, none⟩ = some (.bool true) := hS.row.cell (i := 9) (by omega)
          go_wp2_with fail
          clear c0 c1 c2 c3 c4 c5 c6 c7 c8 c9
          refine (hS.write _ (by simp [bytes_app, bytes_len, ByteArray.size_append, len1, len3]; omega)).mono ?_
          clear hS
          rintro e w5 ⟨rfl, hS⟩
          have c0 : w5.cell? ⟨w.heap.size, 0, none⟩ = some (.string s0) := hS.row.cell (i := 0) (by omega)
          have c1 : w5.cell? ⟨w.heap.size, 1, none⟩ = some (.string s1) := hS.row.cell (i := 1) (by omega)
          have c2 : w5.cell? ⟨w.heap.size, 2, none⟩ = some (.string s2) := hS.row.cell (i := 2) (by omega)
          have c3 : w5.cell? ⟨w.heap.size, 3, none⟩ = some (.string s3) := hS.row.cell (i := 3) (by omega)
          have c4 : w5.cell? ⟨w.heap.size, 4, none⟩ = some (.string s4) := hS.row.cell (i := 4) (by omega)
          have c5 : w5.cell? ⟨w.heap.size, 5, none⟩ = some (.string s5) := hS.row.cell (i := 5) (by omega)
          have c6 : w5.cell? ⟨w.heap.size, 6, none⟩ = some (.bool true) := hS.row.cell (i := 6) (by omega)
          have c7 : w5.cell? ⟨w.heap.size, 7, none⟩ = some (.bool true) := hS.row.cell (i := 7) (by omega)
          have c8 : w5.cell? ⟨w.heap.size, 8, none⟩ = some (.bool true) := hS.row.cell (i := 8) (by omega)
          have c9 : w5.cell? ⟨w.heap.size, 9, none⟩ = some (.bool true) := hS.row.cell (i := 9) (by omega)
          go_wp2_with fail
          clear c0 c1 c2 c3 c4 c5 c6 c7 c8 c9
          refine (hS.write _ (by simp [bytes_app, bytes_len, ByteArray.size_append, len1, len3]; omega)).mono ?_
          clear hS
          rintro e w6 ⟨rfl, hS⟩
          have c0 : w6.cell? ⟨w.heap.size, 0, none⟩ = some (.string s0) := hS.row.cell (i := 0) (by omega)
          have c1 : w6.cell? ⟨w.heap.size, 1, none⟩ = some (.string s1) := hS.row.cell (i := 1) (by omega)
          have c2 : w6.cell? ⟨w.heap.size, 2, none⟩ = some (.string s2) := hS.row.cell (i := 2) (by omega)
          have c3 : w6.cell? ⟨w.heap.size, 3, none⟩ = some (.string s3) := hS.row.cell (i := 3) (by omega)
          have c4 : w6.cell? ⟨w.heap.size, 4, none⟩ = some (.string s4) := hS.row.cell (i := 4) (by omega)
          have c5 : w6.cell? ⟨w.heap.size, 5, none⟩ = some (.string s5) := hS.row.cell (i := 5) (by omega)
          have c6 : w6.cell? ⟨w.heap.size, 6, none⟩ = some (.bool true) := hS.row.cell (i := 6) (by omega)
          have c7 : w6.cell? ⟨w.heap.size, 7, none⟩ = some (.bool true) := hS.row.cell (i := 7) (by omega)
          have c8 : w6.cell? ⟨w.heap.size, 8, none⟩ = some (.bool true) := hS.row.cell (i := 8) (by omega)
          have c9 : w6.cell? ⟨w.heap.size, 9, none⟩ = some (.bool true) := hS.row.cell (i := 9) (by omega)
          go_wp2_with fail
          clear c0 c1 c2 c3 c4 c5 c6 c7 c8 c9
          refine hS.done.mono ?_
          rintro e wz ⟨rfl, hbz⟩
          clear hS
          go_wp2_with fail
          go_ret
          refine ⟨?_, hbz⟩
          simp [text, auth, bytes_app, bytesOf]
        | false =>
          go_wp2_with fail
          generalize (w.alloc (.cells #[.string s0, .string s1, .string s2, .string s3, .string s4, .string s5, .bool true, .bool true, .bool true, .bool false] 24)).alloc (.cells #[.pointer none, .slice none 0 0] 40) = w0 at *
          refine (hS.write _ (by simp [bytes_app, bytes_len, ByteArray.size_append, len1, len3]; omega)).mono ?_
          clear hS
          rintro e w1 ⟨rfl, hS⟩
          have c0 : w1.cell? ⟨w.heap.size, 0, none⟩ = some (.string s0) := hS.row.cell (i := 0) (by omega)
          have c1 : w1.cell? ⟨w.heap.size, 1, none⟩ = some (.string s1) := hS.row.cell (i := 1) (by omega)
          have c2 : w1.cell? ⟨w.heap.size, 2, none⟩ = some (.string s2) := hS.row.cell (i := 2) (by omega)
          have c3 : w1.cell? ⟨w.heap.size, 3, none⟩ = some (.string s3) := hS.row.cell (i := 3) (by omega)
          have c4 : w1.cell? ⟨w.heap.size, 4, none⟩ = some (.string s4) := hS.row.cell (i := 4) (by omega)
          have c5 : w1.cell? ⟨w.heap.size, 5, none⟩ = some (.string s5) := hS.row.cell (i := 5) (by omega)
          have c6 : w1.cell? ⟨w.heap.size, 6, none⟩ = some (.bool true) := hS.row.cell (i := 6) (by omega)
          have c7 : w1.cell? ⟨w.heap.size, 7, none⟩ = some (.bool true) := hS.row.cell (i := 7) (by omega)
          have c8 : w1.cell? ⟨w.heap.size, 8, none⟩ = some (.bool true) := hS.row.cell (i := 8) (by omega)
          have c9 : w1.cell? ⟨w.heap.size, 9, none⟩ = some (.bool false) := hS.row.cell (i := 9) (by omega)
          go_wp2_with fail
          clear c0 c1 c2 c3 c4 c5 c6 c7 c8 c9
          refine (hS.write _ (by simp [bytes_app, bytes_len, ByteArray.size_append, len1, len3]; omega)).mono ?_
          clear hS
          rintro e w2 ⟨rfl, hS⟩
          have c0 : w2.cell? ⟨w.heap.size, 0, none⟩ = some (.string s0) := hS.row.cell (i := 0) (by omega)
          have c1 : w2.cell? ⟨w.heap.size, 1, none⟩ = some (.string s1) := hS.row.cell (i := 1) (by omega)
          have c2 : w2.cell? ⟨w.heap.size, 2, none⟩ = some (.string s2) := hS.row.cell (i := 2) (by omega)
          have c3 : w2.cell? ⟨w.heap.size, 3, none⟩ = some (.string s3) := hS.row.cell (i := 3) (by omega)
          have c4 : w2.cell? ⟨w.heap.size, 4, none⟩ = some (.string s4) := hS.row.cell (i := 4) (by omega)
          have c5 : w2.cell? ⟨w.heap.size, 5, none⟩ = some (.string s5) := hS.row.cell (i := 5) (by omega)
          have c6 : w2.cell? ⟨w.heap.size, 6, none⟩ = some (.bool true) := hS.row.cell (i := 6) (by omega)
          have c7 : w2.cell? ⟨w.heap.size, 7, none⟩ = some (.bool true) := hS.row.cell (i := 7) (by omega)
          have c8 : w2.cell? ⟨w.heap.size, 8, none⟩ = some (.bool true) := hS.row.cell (i := 8) (by omega)
          have c9 : w2.cell? ⟨w.heap.size, 9, none⟩ = some (.bool false) := hS.row.cell (i := 9) (by omega)
          go_wp2_with fail
          clear c0 c1 c2 c3 c4 c5 c6 c7 c8 c9
          refine (hS.write _ (by simp [bytes_app, bytes_len, ByteArray.size_append, len1, len3]; omega)).mono ?_
          clear hS
          rintro e w3 ⟨rfl, hS⟩
          have c0 : w3.cell? ⟨w.heap.size, 0, none⟩ = some (.string s0) := hS.row.cell (i := 0) (by omega)
          have c1 : w3.cell? ⟨w.heap.size, 1, none⟩ = some (.string s1) := hS.row.cell (i := 1) (by omega)
          have c2 : w3.cell? ⟨w.heap.size, 2, none⟩ = some (.string s2) := hS.row.cell (i := 2) (by omega)
          have c3 : w3.cell? ⟨w.heap.size, 3, none⟩ = some (.string s3) := hS.row.cell (i := 3) (by omega)
          have c4 : w3.cell? ⟨w.heap.size, 4, none⟩ = some (.string s4) := hS.row.cell (i := 4) (by omega)
          have c5 : w3.cell? ⟨w.heap.size, 5, none⟩ = some (.string s5) := hS.row.cell (i := 5) (by omega)
          have c6 : w3.cell? ⟨w.heap.size, 6, none⟩ = some (.bool true) := hS.row.cell (i := 6) (by omega)
          have c7 : w3.cell? ⟨w.heap.size, 7, none⟩ = some (.bool true) := hS.row.cell (i := 7) (by omega)
          have c8 : w3.cell? ⟨w.heap.size, 8, none⟩ = some (.bool true) := hS.row.cell (i := 8) (by omega)
          have c9 : w3.cell? ⟨w.heap.size, 9, none⟩ = some (.bool false) := hS.row.cell (i := 9) (by omega)
          go_wp2_with fail
          clear c0 c1 c2 c3 c4 c5 c6 c7 c8 c9
          refine (hS.write _ (by simp [bytes_app, bytes_len, ByteArray.size_append, len1, len3]; omega)).mono ?_
          clear hS
          rintro e w4 ⟨rfl, hS⟩
          have c0 : w4.cell? ⟨w.heap.size, 0, none⟩ = some (.string s0) := hS.row.cell (i := 0) (by omega)
          have c1 : w4.cell? ⟨w.heap.size, 1, none⟩ = some (.string s1) := hS.row.cell (i := 1) (by omega)
          have c2 : w4.cell? ⟨w.heap.size, 2, none⟩ = some (.string s2) := hS.row.cell (i := 2) (by omega)
          have c3 : w4.cell? ⟨w.heap.size, 3, none⟩ = some (.string s3) := hS.row.cell (i := 3) (by omega)
          have c4 : w4.cell? ⟨w.heap.size, 4, none⟩ = some (.string s4) := hS.row.cell (i := 4) (by omega)
          have c5 : w4.cell? ⟨w.heap.size, 5, none⟩ = some (.string s5) := hS.row.cell (i := 5) (by omega)
          have c6 : w4.cell? ⟨w.heap.size, 6, none⟩ = some (.bool true) := hS.row.cell (i := 6) (by omega)
          have c7 : w4.cell? ⟨w.heap.size, 7, none⟩ = some (.bool true) := hS.row.cell (i := 7) (by omega)
          have c8 : w4.cell? ⟨w.heap.size, 8, none⟩ = some (.bool true) := hS.row.cell (i := 8) (by omega)
          have c9 : w4.cell? ⟨w.heap.size, 9, none⟩ = some (.bool false) := hS.row.cell (i := 9) (by omega)
          go_wp2_with fail
          clear c0 c1 c2 c3 c4 c5 c6 c7 c8 c9
          refine (hS.write _ (by simp [bytes_app, bytes_len, ByteArray.size_append, len1, len3]; omega)).mono ?_
          clear hS
          rintro e w5 ⟨rfl, hS⟩
          have c0 : w5.cell? ⟨w.heap.size, 0, none⟩ = some (.string s0) := hS.row.cell (i := 0) (by omega)
          have c1 : w5.cell? ⟨w.heap.size, 1, none⟩ = some (.string s1) := hS.row.cell (i := 1) (by omega)
          have c2 : w5.cell? ⟨w.heap.size, 2, none⟩ = some (.string s2) := hS.row.cell (i := 2) (by omega)
          have c3 : w5.cell? ⟨w.heap.size, 3, none⟩ = some (.string s3) := hS.row.cell (i := 3) (by omega)
          have c4 : w5.cell? ⟨w.heap.size, 4, none⟩ = some (.string s4) := hS.row.cell (i := 4) (by omega)
          have c5 : w5.cell? ⟨w.heap.size, 5, none⟩ = some (.string s5) := hS.row.cell (i := 5) (by omega)
          have c6 : w5.cell? ⟨w.heap.size, 6, none⟩ = some (.bool true) := hS.row.cell (i := 6) (by omega)
          have c7 : w5.cell? ⟨w.heap.size, 7, none⟩ = some (.bool true) := hS.row.cell (i := 7) (by omega)
          have c8 : w5.cell? ⟨w.heap.size, 8, none⟩ = some (.bool true) := hS.row.cell (i := 8) (by omega)
          have c9 : w5.cell? ⟨w.heap.size, 9, none⟩ = some (.bool false) := hS.row.cell (i := 9) (by omega)
          go_wp2_with fail
          clear c0 c1 c2 c3 c4 c5 c6 c7 c8 c9
          refine hS.done.mono ?_
          rintro e wz ⟨rfl, hbz⟩
          clear hS
          go_wp2_with fail
          go_ret
          refine ⟨?_, hbz⟩
          simp [text, auth, bytes_app, bytesOf]
      | false =>
        cases b9 with
        | true =>
          go_wp2_with fail
          generalize (w.alloc (.cells #[.string s0, .string s1, .string s2, .string s3, .string s4, .string s5, .bool true, .bool true, .bool false, .bool true] 24)).alloc (.cells #[.pointer none, .slice none 0 0] 40) = w0 at *
          refine (hS.write _ (by simp [bytes_app, bytes_len, ByteArray.size_append, len1, len3]; omega)).mono ?_
          clear hS
          rintro e w1 ⟨rfl, hS⟩
          have c0 : w1.cell? ⟨w.heap.size, 0, none⟩ = some (.string s0) := hS.row.cell (i := 0) (by omega)
          have c1 : w1.cell? ⟨w.heap.size, 1, none⟩ = some (.string s1) := hS.row.cell (i := 1) (by omega)
          have c2 : w1.cell? ⟨w.heap.size, 2, none⟩ = some (.string s2) := hS.row.cell (i := 2) (by omega)
          have c3 : w1.cell? ⟨w.heap.size, 3, none⟩ = some (.string s3) := hS.row.cell (i := 3) (by omega)
          have c4 : w1.cell? ⟨w.heap.size, 4, none⟩ = some (.string s4) := hS.row.cell (i := 4) (by omega)
          have c5 : w1.cell? ⟨w.heap.size, 5, none⟩ = some (.string s5) := hS.row.cell (i := 5) (by omega)
          have c6 : w1.cell? ⟨w.heap.size, 6, none⟩ = some (.bool true) := hS.row.cell (i := 6) (by omega)
          have c7 : w1.cell? ⟨w.heap.size, 7, none⟩ = some (.bool true) := hS.row.cell (i := 7) (by omega)
          have c8 : w1.cell? ⟨w.heap.size, 8, none⟩ = some (.bool false) := hS.row.cell (i := 8) (by omega)
          have c9 : w1.cell? ⟨w.heap.size, 9, none⟩ = some (.bool true) := hS.row.cell (i := 9) (by omega)
          go_wp2_with fail
          clear c0 c1 c2 c3 c4 c5 c6 c7 c8 c9
          refine (hS.write _ (by simp [bytes_app, bytes_len, ByteArray.size_append, len1, len3]; omega)).mono ?_
          clear hS
          rintro e w2 ⟨rfl, hS⟩
          have c0 : w2.cell? ⟨w.heap.size, 0, none⟩ = some (.string s0) := hS.row.cell (i := 0) (by omega)
          have c1 : w2.cell? ⟨w.heap.size, 1, none⟩ = some (.string s1) := hS.row.cell (i := 1) (by omega)
          have c2 : w2.cell? ⟨w.heap.size, 2, none⟩ = some (.string s2) := hS.row.cell (i := 2) (by omega)
          have c3 : w2.cell? ⟨w.heap.size, 3, none⟩ = some (.string s3) := hS.row.cell (i := 3) (by omega)
          have c4 : w2.cell? ⟨w.heap.size, 4, none⟩ = some (.string s4) := hS.row.cell (i := 4) (by omega)
          have c5 : w2.cell? ⟨w.heap.size, 5, none⟩ = some (.string s5) := hS.row.cell (i := 5) (by omega)
          have c6 : w2.cell? ⟨w.heap.size, 6, none⟩ = some (.bool true) := hS.row.cell (i := 6) (by omega)
          have c7 : w2.cell? ⟨w.heap.size, 7, none⟩ = some (.bool true) := hS.row.cell (i := 7) (by omega)
          have c8 : w2.cell? ⟨w.heap.size, 8, none⟩ = some (.bool false) := hS.row.cell (i := 8) (by omega)
          have c9 : w2.cell? ⟨w.heap.size, 9, none⟩ = some (.bool true) := hS.row.cell (i := 9) (by omega)
          go_wp2_with fail
          clear c0 c1 c2 c3 c4 c5 c6 c7 c8 c9
          refine (hS.write _ (by simp [bytes_app, bytes_len, ByteArray.size_append, len1, len3]; omega)).mono ?_
          clear hS
          rintro e w3 ⟨rfl, hS⟩
          have c0 : w3.cell? ⟨w.heap.size, 0, none⟩ = some (.string s0) := hS.row.cell (i := 0) (by omega)
          have c1 : w3.cell? ⟨w.heap.size, 1, none⟩ = some (.string s1) := hS.row.cell (i := 1) (by omega)
          have c2 : w3.cell? ⟨w.heap.size, 2, none⟩ = some (.string s2) := hS.row.cell (i := 2) (by omega)
          have c3 : w3.cell? ⟨w.heap.size, 3, none⟩ = some (.string s3) := hS.row.cell (i := 3) (by omega)
          have c4 : w3.cell? ⟨w.heap.size, 4, none⟩ = some (.string s4) := hS.row.cell (i := 4) (by omega)
          have c5 : w3.cell? ⟨w.heap.size, 5, none⟩ = some (.string s5) := hS.row.cell (i := 5) (by omega)
          have c6 : w3.cell? ⟨w.heap.size, 6, none⟩ = some (.bool true) := hS.row.cell (i := 6) (by omega)
          have c7 : w3.cell? ⟨w.heap.size, 7, none⟩ = some (.bool true) := hS.row.cell (i := 7) (by omega)
          have c8 : w3.cell? ⟨w.heap.size, 8, none⟩ = some (.bool false) := hS.row.cell (i := 8) (by omega)
          have c9 : w3.cell? ⟨w.heap.size, 9, none⟩ = some (.bool true) := hS.row.cell (i := 9) (by omega)
          go_wp2_with fail
          clear c0 c1 c2 c3 c4 c5 c6 c7 c8 c9
          refine (hS.write _ (by simp [bytes_app, bytes_len, ByteArray.size_append, len1, len3]; omega)).mono ?_
          clear hS
          rintro e w4 ⟨rfl, hS⟩
          have c0 : w4.cell? ⟨w.heap.size, 0, none⟩ = some (.string s0) := hS.row.cell (i := 0) (by omega)
          have c1 : w4.cell? ⟨w.heap.size, 1, none⟩ = some (.string s1) := hS.row.cell (i := 1) (by omega)
          have c2 : w4.cell? ⟨w.heap.size, 2, none⟩ = some (.string s2) := hS.row.cell (i := 2) (by omega)
          have c3 : w4.cell? ⟨w.heap.size, 3, none⟩ = some (.string s3) := hS.row.cell (i := 3) (by omega)
          have c4 : w4.cell? ⟨w.heap.size, 4, none⟩ = some (.string s4) := hS.row.cell (i := 4) (by omega)
          have c5 : w4.cell? ⟨w.heap.size, 5, none⟩ = some (.string s5) := hS.row.cell (i := 5) (by omega)
          have c6 : w4.cell? ⟨w.heap.size, 6, none⟩ = some (.bool true) := hS.row.cell (i := 6) (by omega)
          have c7 : w4.cell? ⟨w.heap.size, 7, none⟩ = some (.bool true) := hS.row.cell (i := 7) (by omega)
          have c8 : w4.cell? ⟨w.heap.size, 8, none⟩ = some (.bool false) := hS.row.cell (i := 8) (by omega)
          have c9 : w4.cell? ⟨w.heap.size, 9, none⟩ = some (.bool true) := hS.row.cell (i := 9) (by omega)
          go_wp2_with fail
          clear c0 c1 c2 c3 c4 c5 c6 c7 c8 c9
          refine (hS.write _ (by simp [bytes_app, bytes_len, ByteArray.size_append, len1, len3]; omega)).mono ?_
          clear hS
          rintro e w5 ⟨rfl, hS⟩
          have c0 : w5.cell? ⟨w.heap.size, 0, none⟩ = some (.string s0) := hS.row.cell (i := 0) (by omega)
          have c1 : w5.cell? ⟨w.heap.size, 1, none⟩ = some (.string s1) := hS.row.cell (i := 1) (by omega)
          have c2 : w5.cell? ⟨w.heap.size, 2, none⟩ = some (.string s2) := hS.row.cell (i := 2) (by omega)
          have c3 : w5.cell? ⟨w.heap.size, 3, none⟩ = some (.string s3) := hS.row.cell (i := 3) (by omega)
          have c4 : w5.cell? ⟨w.heap.size, 4, none⟩ = some (.string s4) := hS.row.cell (i := 4) (by omega)
          have c5 : w5.cell? ⟨w.heap.size, 5, none⟩ = some (.string s5) := hS.row.cell (i := 5) (by omega)
          have c6 : w5.cell? ⟨w.heap.size, 6, none⟩ = some (.bool true) := hS.row.cell (i := 6) (by omega)
          have c7 : w5.cell? ⟨w.heap.size, 7, none⟩ = some (.bool true) := hS.row.cell (i := 7) (by omega)
          have c8 : w5.cell? ⟨w.heap.size, 8, none⟩ = some (.bool false) := hS.row.cell (i := 8) (by omega)
          have c9 : w5.cell? ⟨w.heap.size, 9, none⟩ = some (.bool true) := hS.row.cell (i := 9) (by omega)
          go_wp2_with fail
          clear c0 c1 c2 c3 c4 c5 c6 c7 c8 c9
          refine hS.done.mono ?_
          rintro e wz ⟨rfl, hbz⟩
          clear hS
          go_wp2_with fail
          go_ret
          refine ⟨?_, hbz⟩
          simp [text, auth, bytes_app, bytesOf]
        | false =>
          go_wp2_with fail
          generalize (w.alloc (.cells #[.string s0, .string s1, .string s2, .string s3, .string s4, .string s5, .bool true, .bool true, .bool false, .bool false] 24)).alloc (.cells #[.pointer none, .slice none 0 0] 40) = w0 at *
          refine (hS.write _ (by simp [bytes_app, bytes_len, ByteArray.size_append, len1, len3]; omega)).mono ?_
          clear hS
          rintro e w1 ⟨rfl, hS⟩
          have c0 : w1.cell? ⟨w.heap.size, 0, none⟩ = some (.string s0) := hS.row.cell (i := 0) (by omega)
          have c1 : w1.cell? ⟨w.heap.size, 1, none⟩ = some (.string s1) := hS.row.cell (i := 1) (by omega)
          have c2 : w1.cell? ⟨w.heap.size, 2, none⟩ = some (.string s2) := hS.row.cell (i := 2) (by omega)
          have c3 : w1.cell? ⟨w.heap.size, 3, none⟩ = some (.string s3) := hS.row.cell (i := 3) (by omega)
          have c4 : w1.cell? ⟨w.heap.size, 4, none⟩ = some (.string s4) := hS.row.cell (i := 4) (by omega)
          have c5 : w1.cell? ⟨w.heap.size, 5, none⟩ = some (.string s5) := hS.row.cell (i := 5) (by omega)
          have c6 : w1.cell? ⟨w.heap.size, 6, none⟩ = some (.bool true) := hS.row.cell (i := 6) (by omega)
          have c7 : w1.cell? ⟨w.heap.size, 7, none⟩ = some (.bool true) := hS.row.cell (i := 7) (by omega)
          have c8 : w1.cell? ⟨w.heap.size, 8, none⟩ = some (.bool false) := hS.row.cell (i := 8) (by omega)
          have c9 : w1.cell? ⟨w.heap.size, 9, none⟩ = some (.bool false) := hS.row.cell (i := 9) (by omega)
          go_wp2_with fail
          clear c0 c1 c2 c3 c4 c5 c6 c7 c8 c9
          refine (hS.write _ (by simp [bytes_app, bytes_len, ByteArray.size_append, len1, len3]; omega)).mono ?_
          clear hS
          rintro e w2 ⟨rfl, hS⟩
          have c0 : w2.cell? ⟨w.heap.size, 0, none⟩ = some (.string s0) := hS.row.cell (i := 0) (by omega)
          have c1 : w2.cell? ⟨w.heap.size, 1, none⟩ = some (.string s1) := hS.row.cell (i := 1) (by omega)
          have c2 : w2.cell? ⟨w.heap.size, 2, none⟩ = some (.string s2) := hS.row.cell (i := 2) (by omega)
          have c3 : w2.cell? ⟨w.heap.size, 3, none⟩ = some (.string s3) := hS.row.cell (i := 3) (by omega)
          have c4 : w2.cell? ⟨w.heap.size, 4, none⟩ = some (.string s4) := hS.row.cell (i := 4) (by omega)
          have c5 : w2.cell? ⟨w.heap.size, 5, none⟩ = some (.string s5) := hS.row.cell (i := 5) (by omega)
          have c6 : w2.cell? ⟨w.heap.size, 6, none⟩ = some (.bool true) := hS.row.cell (i := 6) (by omega)
          have c7 : w2.cell? ⟨w.heap.size, 7, none⟩ = some (.bool true) := hS.row.cell (i := 7) (by omega)
          have c8 : w2.cell? ⟨w.heap.size, 8, none⟩ = some (.bool false) := hS.row.cell (i := 8) (by omega)
          have c9 : w2.cell? ⟨w.heap.size, 9, none⟩ = some (.bool false) := hS.row.cell (i := 9) (by omega)
          go_wp2_with fail
          clear c0 c1 c2 c3 c4 c5 c6 c7 c8 c9
          refine (hS.write _ (by simp [bytes_app, bytes_len, ByteArray.size_append, len1, len3]; omega)).mono ?_
          clear hS
          rintro e w3 ⟨rfl, hS⟩
          have c0 : w3.cell? ⟨w.heap.size, 0, none⟩ = some (.string s0) := hS.row.cell (i := 0) (by omega)
          have c1 : w3.cell? ⟨w.heap.size, 1, none⟩ = some (.string s1) := hS.row.cell (i := 1) (by omega)
          have c2 : w3.cell? ⟨w.heap.size, 2, none⟩ = some (.string s2) := hS.row.cell (i := 2) (by omega)
          have c3 : w3.cell? ⟨w.heap.size, 3, none⟩ = some (.string s3) := hS.row.cell (i := 3) (by omega)
          have c4 : w3.cell? ⟨w.heap.size, 4, none⟩ = some (.string s4) := hS.row.cell (i := 4) (by omega)
          have c5 : w3.cell? ⟨w.heap.size, 5, none⟩ = some (.string s5) := hS.row.cell (i := 5) (by omega)
          have c6 : w3.cell? ⟨w.heap.size, 6, none⟩ = some (.bool true) := hS.row.cell (i := 6) (by omega)
          have c7 : w3.cell? ⟨w.heap.size, 7, none⟩ = some (.bool true) := hS.row.cell (i := 7) (by omega)
          have c8 : w3.cell? ⟨w.heap.size, 8, none⟩ = some (.bool false) := hS.row.cell (i := 8) (by omega)
          have c9 : w3.cell? ⟨w.heap.size, 9, none⟩ = some (.bool false) := hS.row.cell (i := 9) (by omega)
          go_wp2_with fail
          clear c0 c1 c2 c3 c4 c5 c6 c7 c8 c9
          refine (hS.write _ (by simp [bytes_app, bytes_len, ByteArray.size_append, len1, len3]; omega)).mono ?_
          clear hS
          rintro e w4 ⟨rfl, hS⟩
          have c0 : w4.cell? ⟨w.heap.size, 0, none⟩ = some (.string s0) := hS.row.cell (i := 0) (by omega)
          have c1 : w4.cell? ⟨w.heap.size, 1, none⟩ = some (.string s1) := hS.row.cell (i := 1) (by omega)
          have c2 : w4.cell? ⟨w.heap.size, 2, none⟩ = some (.string s2) := hS.row.cell (i := 2) (by omega)
          have c3 : w4.cell? ⟨w.heap.size, 3, none⟩ = some (.string s3) := hS.row.cell (i := 3) (by omega)
          have c4 : w4.cell? ⟨w.heap.size, 4, none⟩ = some (.string s4) := hS.row.cell (i := 4) (by omega)
          have c5 : w4.cell? ⟨w.heap.size, 5, none⟩ = some (.string s5) := hS.row.cell (i := 5) (by omega)
          have c6 : w4.cell? ⟨w.heap.size, 6, none⟩ = some (.bool true) := hS.row.cell (i := 6) (by omega)
          have c7 : w4.cell? ⟨w.heap.size, 7, none⟩ = some (.bool true) := hS.row.cell (i := 7) (by omega)
          have c8 : w4.cell? ⟨w.heap.size, 8, none⟩ = some (.bool false) := hS.row.cell (i := 8) (by omega)
          have c9 : w4.cell? ⟨w.heap.size, 9, none⟩ = some (.bool false) := hS.row.cell (i := 9) (by omega)
          go_wp2_with fail
          clear c0 c1 c2 c3 c4 c5 c6 c7 c8 c9
          refine hS.done.mono ?_
          rintro e wz ⟨rfl, hbz⟩
          clear hS
          go_wp2_with fail
          go_ret
          refine ⟨?_, hbz⟩
          simp [text, auth, bytes_app, bytesOf]
    | false =>
      cases b8 with
      | true =>
        cases b9 with
        | true =>
          go_wp2_with fail
          generalize (w.alloc (.cells #[.string s0, .string s1, .string s2, .string s3, .string s4, .string s5, .bool true, .bool false, .bool true, .bool true] 24)).alloc (.cells #[.pointer none, .slice none 0 0] 40) = w0 at *
          refine (hS.write _ (by simp [bytes_app, bytes_len, ByteArray.size_append, len1, len3]; omega)).mono ?_
          clear hS
          rintro e w1 ⟨rfl, hS⟩
          have c0 : w1.cell? ⟨w.heap.size, 0, none⟩ = some (.string s0) := hS.row.cell (i := 0) (by omega)
          have c1 : w1.cell? ⟨w.heap.size, 1, none⟩ = some (.string s1) := hS.row.cell (i := 1) (by omega)
          have c2 : w1.cell? ⟨w.heap.size, 2, none⟩ = some (.string s2) := hS.row.cell (i := 2) (by omega)
          have c3 : w1.cell? ⟨w.heap.size, 3, none⟩ = some (.string s3) := hS.row.cell (i := 3) (by omega)
          have c4 : w1.cell? ⟨w.heap.size, 4, none⟩ = some (.string s4) := hS.row.cell (i := 4) (by omega)
          have c5 : w1.cell? ⟨w.heap.size, 5, none⟩ = some (.string s5) := hS.row.cell (i := 5) (by omega)
          have c6 : w1.cell? ⟨w.heap.size, 6, none⟩ = some (.bool true) := hS.row.cell (i := 6) (by omega)
          have c7 : w1.cell? ⟨w.heap.size, 7, none⟩ = some (.bool false) := hS.row.cell (i := 7) (by omega)
          have c8 : w1.cell? ⟨w.heap.size, 8, none⟩ = some (.bool true) := hS.row.cell (i := 8) (by omega)
          have c9 : w1.cell? ⟨w.heap.size, 9, none⟩ = some (.bool true) := hS.row.cell (i := 9) (by omega)
          go_wp2_with fail
          clear c0 c1 c2 c3 c4 c5 c6 c7 c8 c9
          refine (hS.write _ (by simp [bytes_app, bytes_len, ByteArray.size_append, len1, len3]; omega)).mono ?_
          clear hS
          rintro e w2 ⟨rfl, hS⟩
          have c0 : w2.cell? ⟨w.heap.size, 0, none⟩ = some (.string s0) := hS.row.cell (i := 0) (by omega)
          have c1 : w2.cell? ⟨w.heap.size, 1, none⟩ = some (.string s1) := hS.row.cell (i := 1) (by omega)
          have c2 : w2.cell? ⟨w.heap.size, 2, none⟩ = some (.string s2) := hS.row.cell (i := 2) (by omega)
          have c3 : w2.cell? ⟨w.heap.size, 3, none⟩ = some (.string s3) := hS.row.cell (i := 3) (by omega)
          have c4 : w2.cell? ⟨w.heap.size, 4, none⟩ = some (.string s4) := hS.row.cell (i := 4) (by omega)
          have c5 : w2.cell? ⟨w.heap.size, 5, none⟩ = some (.string s5) := hS.row.cell (i := 5) (by omega)
          have c6 : w2.cell? ⟨w.heap.size, 6, none⟩ = some (.bool true) := hS.row.cell (i := 6) (by omega)
          have c7 : w2.cell? ⟨w.heap.size, 7, none⟩ = some (.bool false) := hS.row.cell (i := 7) (by omega)
          have c8 : w2.cell? ⟨w.heap.size, 8, none⟩ = some (.bool true) := hS.row.cell (i := 8) (by omega)
          have c9 : w2.cell? ⟨w.heap.size, 9, none⟩ = some (.bool true) := hS.row.cell (i := 9) (by omega)
          go_wp2_with fail
          clear c0 c1 c2 c3 c4 c5 c6 c7 c8 c9
          refine (hS.write _ (by simp [bytes_app, bytes_len, ByteArray.size_append, len1, len3]; omega)).mono ?_
          clear hS
          rintro e w3 ⟨rfl, hS⟩
          have c0 : w3.cell? ⟨w.heap.size, 0, none⟩ = some (.string s0) := hS.row.cell (i := 0) (by omega)
          have c1 : w3.cell? ⟨w.heap.size, 1, none⟩ = some (.string s1) := hS.row.cell (i := 1) (by omega)
          have c2 : w3.cell? ⟨w.heap.size, 2, none⟩ = some (.string s2) := hS.row.cell (i := 2) (by omega)
          have c3 : w3.cell? ⟨w.heap.size, 3, none⟩ = some (.string s3) := hS.row.cell (i := 3) (by omega)
          have c4 : w3.cell? ⟨w.heap.size, 4, none⟩ = some (.string s4) := hS.row.cell (i := 4) (by omega)
          have c5 : w3.cell? ⟨w.heap.size, 5, none⟩ = some (.string s5) := hS.row.cell (i := 5) (by omega)
          have c6 : w3.cell? ⟨w.heap.size, 6, none⟩ = some (.bool true) := hS.row.cell (i := 6) (by omega)
          have c7 : w3.cell? ⟨w.heap.size, 7, none⟩ = some (.bool false) := hS.row.cell (i := 7) (by omega)
          have c8 : w3.cell? ⟨w.heap.size, 8, none⟩ = some (.bool true) := hS.row.cell (i := 8) (by omega)
          have c9 : w3.cell? ⟨w.heap.size, 9, none⟩ = some (.bool true) := hS.row.cell (i := 9) (by omega)
          go_wp2_with fail
          clear c0 c1 c2 c3 c4 c5 c6 c7 c8 c9
          refine (hS.write _ (by simp [bytes_app, bytes_len, ByteArray.size_append, len1, len3]; omega)).mono ?_
          clear hS
          rintro e w4 ⟨rfl, hS⟩
          have c0 : w4.cell? ⟨w.heap.size, 0, none⟩ = some (.string s0) := hS.row.cell (i := 0) (by omega)
          have c1 : w4.cell? ⟨w.heap.size, 1, none⟩ = some (.string s1) := hS.row.cell (i := 1) (by omega)
          have c2 : w4.cell? ⟨w.heap.size, 2, none⟩ = some (.string s2) := hS.row.cell (i := 2) (by omega)
          have c3 : w4.cell? ⟨w.heap.size, 3, none⟩ = some (.string s3) := hS.row.cell (i := 3) (by omega)
          have c4 : w4.cell? ⟨w.heap.size, 4, none⟩ = some (.string s4) := hS.row.cell (i := 4) (by omega)
          have c5 : w4.cell? ⟨w.heap.size, 5, none⟩ = some (.string s5) := hS.row.cell (i := 5) (by omega)
          have c6 : w4.cell? ⟨w.heap.size, 6, none⟩ = some (.bool true) := hS.row.cell (i := 6) (by omega)
          have c7 : w4.cell? ⟨w.heap.size, 7, none⟩ = some (.bool false) := hS.row.cell (i := 7) (by omega)
          have c8 : w4.cell? ⟨w.heap.size, 8, none⟩ = some (.bool true) := hS.row.cell (i := 8) (by omega)
          have c9 : w4.cell? ⟨w.heap.size, 9, none⟩ = some (.bool true) := hS.row.cell (i := 9) (by omega)
          go_wp2_with fail
          clear c0 c1 c2 c3 c4 c5 c6 c7 c8 c9
          refine (hS.write _ (by simp [bytes_app, bytes_len, ByteArray.size_append, len1, len3]; omega)).mono ?_
          clear hS
          rintro e w5 ⟨rfl, hS⟩
          have c0 : w5.cell? ⟨w.heap.size, 0, none⟩ = some (.string s0) := hS.row.cell (i := 0) (by omega)
          have c1 : w5.cell? ⟨w.heap.size, 1, none⟩ = some (.string s1) := hS.row.cell (i := 1) (by omega)
          have c2 : w5.cell? ⟨w.heap.size, 2, none⟩ = some (.string s2) := hS.row.cell (i := 2) (by omega)
          have c3 : w5.cell? ⟨w.heap.size, 3, none⟩ = some (.string s3) := hS.row.cell (i := 3) (by omega)
          have c4 : w5.cell? ⟨w.heap.size, 4, none⟩ = some (.string s4) := hS.row.cell (i := 4) (by omega)
          have c5 : w5.cell? ⟨w.heap.size, 5, none⟩ = some (.string s5) := hS.row.cell (i := 5) (by omega)
          have c6 : w5.cell? ⟨w.heap.size, 6, none⟩ = some (.bool true) := hS.row.cell (i := 6) (by omega)
          have c7 : w5.cell? ⟨w.heap.size, 7, none⟩ = some (.bool false) := hS.row.cell (i := 7) (by omega)
          have c8 : w5.cell? ⟨w.heap.size, 8, none⟩ = some (.bool true) := hS.row.cell (i := 8) (by omega)
          have c9 : w5.cell? ⟨w.heap.size, 9, none⟩ = some (.bool true) := hS.row.cell (i := 9) (by omega)
          go_wp2_with fail
          clear c0 c1 c2 c3 c4 c5 c6 c7 c8 c9
          refine hS.done.mono ?_
          rintro e wz ⟨rfl, hbz⟩
          clear hS
          go_wp2_with fail
          go_ret
          refine ⟨?_, hbz⟩
          simp [text, auth, bytes_app, bytesOf]
        | false =>
          go_wp2_with fail
          generalize (w.alloc (.cells #[.string s0, .string s1, .string s2, .string s3, .string s4, .string s5, .bool true, .bool false, .bool true, .bool false] 24)).alloc (.cells #[.pointer none, .slice none 0 0] 40) = w0 at *
          refine (hS.write _ (by simp [bytes_app, bytes_len, ByteArray.size_append, len1, len3]; omega)).mono ?_
          clear hS
          rintro e w1 ⟨rfl, hS⟩
          have c0 : w1.cell? ⟨w.heap.size, 0, none⟩ = some (.string s0) := hS.row.cell (i := 0) (by omega)
          have c1 : w1.cell? ⟨w.heap.size, 1, none⟩ = some (.string s1) := hS.row.cell (i := 1) (by omega)
          have c2 : w1.cell? ⟨w.heap.size, 2, none⟩ = some (.string s2) := hS.row.cell (i := 2) (by omega)
          have c3 : w1.cell? ⟨w.heap.size, 3, none⟩ = some (.string s3) := hS.row.cell (i := 3) (by omega)
          have c4 : w1.cell? ⟨w.heap.size, 4, none⟩ = some (.string s4) := hS.row.cell (i := 4) (by omega)
          have c5 : w1.cell? ⟨w.heap.size, 5, none⟩ = some (.string s5) := hS.row.cell (i := 5) (by omega)
          have c6 : w1.cell? ⟨w.heap.size, 6, none⟩ = some (.bool true) := hS.row.cell (i := 6) (by omega)
          have c7 : w1.cell? ⟨w.heap.size, 7, none⟩ = some (.bool false) := hS.row.cell (i := 7) (by omega)
          have c8 : w1.cell? ⟨w.heap.size, 8, none⟩ = some (.bool true) := hS.row.cell (i := 8) (by omega)
          have c9 : w1.cell? ⟨w.heap.size, 9, none⟩ = some (.bool false) := hS.row.cell (i := 9) (by omega)
          go_wp2_with fail
          clear c0 c1 c2 c3 c4 c5 c6 c7 c8 c9
          refine (hS.write _ (by simp [bytes_app, bytes_len, ByteArray.size_append, len1, len3]; omega)).mono ?_
          clear hS
          rintro e w2 ⟨rfl, hS⟩
          have c0 : w2.cell? ⟨w.heap.size, 0, none⟩ = some (.string s0) := hS.row.cell (i := 0) (by omega)
          have c1 : w2.cell? ⟨w.heap.size, 1, none⟩ = some (.string s1) := hS.row.cell (i := 1) (by omega)
          have c2 : w2.cell? ⟨w.heap.size, 2, none⟩ = some (.string s2) := hS.row.cell (i := 2) (by omega)
          have c3 : w2.cell? ⟨w.heap.size, 3, none⟩ = some (.string s3) := hS.row.cell (i := 3) (by omega)
          have c4 : w2.cell? ⟨w.heap.size, 4, none⟩ = some (.string s4) := hS.row.cell (i := 4) (by omega)
          have c5 : w2.cell? ⟨w.heap.size, 5, none⟩ = some (.string s5) := hS.row.cell (i := 5) (by omega)
          have c6 : w2.cell? ⟨w.heap.size, 6, none⟩ = some (.bool true) := hS.row.cell (i := 6) (by omega)
          have c7 : w2.cell? ⟨w.heap.size, 7, none⟩ = some (.bool false) := hS.row.cell (i := 7) (by omega)
          have c8 : w2.cell? ⟨w.heap.size, 8, none⟩ = some (.bool true) := hS.row.cell (i := 8) (by omega)
          have c9 : w2.cell? ⟨w.heap.size, 9, none⟩ = some (.bool false) := hS.row.cell (i := 9) (by omega)
          go_wp2_with fail
          clear c0 c1 c2 c3 c4 c5 c6 c7 c8 c9
          refine (hS.write _ (by simp [bytes_app, bytes_len, ByteArray.size_append, len1, len3]; omega)).mono ?_
          clear hS
          rintro e w3 ⟨rfl, hS⟩
          have c0 : w3.cell? ⟨w.heap.size, 0, none⟩ = some (.string s0) := hS.row.cell (i := 0) (by omega)
          have c1 : w3.cell? ⟨w.heap.size, 1, none⟩ = some (.string s1) := hS.row.cell (i := 1) (by omega)
          have c2 : w3.cell? ⟨w.heap.size, 2, none⟩ = some (.string s2) := hS.row.cell (i := 2) (by omega)
          have c3 : w3.cell? ⟨w.heap.size, 3, none⟩ = some (.string s3) := hS.row.cell (i := 3) (by omega)
          have c4 : w3.cell? ⟨w.heap.size, 4, none⟩ = some (.string s4) := hS.row.cell (i := 4) (by omega)
          have c5 : w3.cell? ⟨w.heap.size, 5, none⟩ = some (.string s5) := hS.row.cell (i := 5) (by omega)
          have c6 : w3.cell? ⟨w.heap.size, 6, none⟩ = some (.bool true) := hS.row.cell (i := 6) (by omega)
          have c7 : w3.cell? ⟨w.heap.size, 7, none⟩ = some (.bool false) := hS.row.cell (i := 7) (by omega)
          have c8 : w3.cell? ⟨w.heap.size, 8, none⟩ = some (.bool true) := hS.row.cell (i := 8) (by omega)
          have c9 : w3.cell? ⟨w.heap.size, 9, none⟩ = some (.bool false) := hS.row.cell (i := 9) (by omega)
          go_wp2_with fail
          clear c0 c1 c2 c3 c4 c5 c6 c7 c8 c9
          refine (hS.write _ (by simp [bytes_app, bytes_len, ByteArray.size_append, len1, len3]; omega)).mono ?_
          clear hS
          rintro e w4 ⟨rfl, hS⟩
          have c0 : w4.cell? ⟨w.heap.size, 0, none⟩ = some (.string s0) := hS.row.cell (i := 0) (by omega)
          have c1 : w4.cell? ⟨w.heap.size, 1, none⟩ = some (.string s1) := hS.row.cell (i := 1) (by omega)
          have c2 : w4.cell? ⟨w.heap.size, 2, none⟩ = some (.string s2) := hS.row.cell (i := 2) (by omega)
          have c3 : w4.cell? ⟨w.heap.size, 3, none⟩ = some (.string s3) := hS.row.cell (i := 3) (by omega)
          have c4 : w4.cell? ⟨w.heap.size, 4, none⟩ = some (.string s4) := hS.row.cell (i := 4) (by omega)
          have c5 : w4.cell? ⟨w.heap.size, 5, none⟩ = some (.string s5) := hS.row.cell (i := 5) (by omega)
          have c6 : w4.cell? ⟨w.heap.size, 6, none⟩ = some (.bool true) := hS.row.cell (i := 6) (by omega)
          have c7 : w4.cell? ⟨w.heap.size, 7, none⟩ = some (.bool false) := hS.row.cell (i := 7) (by omega)
          have c8 : w4.cell? ⟨w.heap.size, 8, none⟩ = some (.bool true) := hS.row.cell (i := 8) (by omega)
          have c9 : w4.cell? ⟨w.heap.size, 9, none⟩ = some (.bool false) := hS.row.cell (i := 9) (by omega)
          go_wp2_with fail
          clear c0 c1 c2 c3 c4 c5 c6 c7 c8 c9
          refine hS.done.mono ?_
          rintro e wz ⟨rfl, hbz⟩
          clear hS
          go_wp2_with fail
          go_ret
          refine ⟨?_, hbz⟩
          simp [text, auth, bytes_app, bytesOf]
      | false =>
        cases b9 with
        | true =>
          go_wp2_with fail
          generalize (w.alloc (.cells #[.string s0, .string s1, .string s2, .string s3, .string s4, .string s5, .bool true, .bool false, .bool false, .bool true] 24)).alloc (.cells #[.pointer none, .slice none 0 0] 40) = w0 at *
          refine (hS.write _ (by simp [bytes_app, bytes_len, ByteArray.size_append, len1, len3]; omega)).mono ?_
          clear hS
          rintro e w1 ⟨rfl, hS⟩
          have c0 : w1.cell? ⟨w.heap.size, 0, none⟩ = some (.string s0) := hS.row.cell (i := 0) (by omega)
          have c1 : w1.cell? ⟨w.heap.size, 1, none⟩ = some (.string s1) := hS.row.cell (i := 1) (by omega)
          have c2 : w1.cell? ⟨w.heap.size, 2, none⟩ = some (.string s2) := hS.row.cell (i := 2) (by omega)
          have c3 : w1.cell? ⟨w.heap.size, 3, none⟩ = some (.string s3) := hS.row.cell (i := 3) (by omega)
          have c4 : w1.cell? ⟨w.heap.size, 4, none⟩ = some (.string s4) := hS.row.cell (i := 4) (by omega)
          have c5 : w1.cell? ⟨w.heap.size, 5, none⟩ = some (.string s5) := hS.row.cell (i := 5) (by omega)
          have c6 : w1.cell? ⟨w.heap.size, 6, none⟩ = some (.bool true) := hS.row.cell (i := 6) (by omega)
          have c7 : w1.cell? ⟨w.heap.size, 7, none⟩ = some (.bool false) := hS.row.cell (i := 7) (by omega)
          have c8 : w1.cell? ⟨w.heap.size, 8, none⟩ = some (.bool false) := hS.row.cell (i := 8) (by omega)
          have c9 : w1.cell? ⟨w.heap.size, 9, none⟩ = some (.bool true) := hS.row.cell (i := 9) (by omega)
          go_wp2_with fail
          clear c0 c1 c2 c3 c4 c5 c6 c7 c8 c9
          refine (hS.write _ (by simp [bytes_app, bytes_len, ByteArray.size_append, len1, len3]; omega)).mono ?_
          clear hS
          rintro e w2 ⟨rfl, hS⟩
          have c0 : w2.cell? ⟨w.heap.size, 0, none⟩ = some (.string s0) := hS.row.cell (i := 0) (by omega)
          have c1 : w2.cell? ⟨w.heap.size, 1, none⟩ = some (.string s1) := hS.row.cell (i := 1) (by omega)
          have c2 : w2.cell? ⟨w.heap.size, 2, none⟩ = some (.string s2) := hS.row.cell (i := 2) (by omega)
          have c3 : w2.cell? ⟨w.heap.size, 3, none⟩ = some (.string s3) := hS.row.cell (i := 3) (by omega)
          have c4 : w2.cell? ⟨w.heap.size, 4, none⟩ = some (.string s4) := hS.row.cell (i := 4) (by omega)
          have c5 : w2.cell? ⟨w.heap.size, 5, none⟩ = some (.string s5) := hS.row.cell (i := 5) (by omega)
          have c6 : w2.cell? ⟨w.heap.size, 6, none⟩ = some (.bool true) := hS.row.cell (i := 6) (by omega)
          have c7 : w2.cell? ⟨w.heap.size, 7, none⟩ = some (.bool false) := hS.row.cell (i := 7) (by omega)
          have c8 : w2.cell? ⟨w.heap.size, 8, none⟩ = some (.bool false) := hS.row.cell (i := 8) (by omega)
          have c9 : w2.cell? ⟨w.heap.size, 9, none⟩ = some (.bool true) := hS.row.cell (i := 9) (by omega)
          go_wp2_with fail
          clear c0 c1 c2 c3 c4 c5 c6 c7 c8 c9
          refine (hS.write _ (by simp [bytes_app, bytes_len, ByteArray.size_append, len1, len3]; omega)).mono ?_
          clear hS
          rintro e w3 ⟨rfl, hS⟩
          have c0 : w3.cell? ⟨w.heap.size, 0, none⟩ = some (.string s0) := hS.row.cell (i := 0) (by omega)
          have c1 : w3.cell? ⟨w.heap.size, 1, none⟩ = some (.string s1) := hS.row.cell (i := 1) (by omega)
          have c2 : w3.cell? ⟨w.heap.size, 2, none⟩ = some (.string s2) := hS.row.cell (i := 2) (by omega)
          have c3 : w3.cell? ⟨w.heap.size, 3, none⟩ = some (.string s3) := hS.row.cell (i := 3) (by omega)
          have c4 : w3.cell? ⟨w.heap.size, 4, none⟩ = some (.string s4) := hS.row.cell (i := 4) (by omega)
          have c5 : w3.cell? ⟨w.heap.size, 5, none⟩ = some (.string s5) := hS.row.cell (i := 5) (by omega)
          have c6 : w3.cell? ⟨w.heap.size, 6, none⟩ = some (.bool true) := hS.row.cell (i := 6) (by omega)
          have c7 : w3.cell? ⟨w.heap.size, 7, none⟩ = some (.bool false) := hS.row.cell (i := 7) (by omega)
          have c8 : w3.cell? ⟨w.heap.size, 8, none⟩ = some (.bool false) := hS.row.cell (i := 8) (by omega)
          have c9 : w3.cell? ⟨w.heap.size, 9, none⟩ = some (.bool true) := hS.row.cell (i := 9) (by omega)
          go_wp2_with fail
          clear c0 c1 c2 c3 c4 c5 c6 c7 c8 c9
          refine (hS.write _ (by simp [bytes_app, bytes_len, ByteArray.size_append, len1, len3]; omega)).mono ?_
          clear hS
          rintro e w4 ⟨rfl, hS⟩
          have c0 : w4.cell? ⟨w.heap.size, 0, none⟩ = some (.string s0) := hS.row.cell (i := 0) (by omega)
          have c1 : w4.cell? ⟨w.heap.size, 1, none⟩ = some (.string s1) := hS.row.cell (i := 1) (by omega)
          have c2 : w4.cell? ⟨w.heap.size, 2, none⟩ = some (.string s2) := hS.row.cell (i := 2) (by omega)
          have c3 : w4.cell? ⟨w.heap.size, 3, none⟩ = some (.string s3) := hS.row.cell (i := 3) (by omega)
          have c4 : w4.cell? ⟨w.heap.size, 4, none⟩ = some (.string s4) := hS.row.cell (i := 4) (by omega)
          have c5 : w4.cell? ⟨w.heap.size, 5, none⟩ = some (.string s5) := hS.row.cell (i := 5) (by omega)
          have c6 : w4.cell? ⟨w.heap.size, 6, none⟩ = some (.bool true) := hS.row.cell (i := 6) (by omega)
          have c7 : w4.cell? ⟨w.heap.size, 7, none⟩ = some (.bool false) := hS.row.cell (i := 7) (by omega)
          have c8 : w4.cell? ⟨w.heap.size, 8, none⟩ = some (.bool false) := hS.row.cell (i := 8) (by omega)
          have c9 : w4.cell? ⟨w.heap.size, 9, none⟩ = some (.bool true) := hS.row.cell (i := 9) (by omega)
          go_wp2_with fail
          clear c0 c1 c2 c3 c4 c5 c6 c7 c8 c9
          refine hS.done.mono ?_
          rintro e wz ⟨rfl, hbz⟩
          clear hS
          go_wp2_with fail
          go_ret
          refine ⟨?_, hbz⟩
          simp [text, auth, bytes_app, bytesOf]
        | false =>
          go_wp2_with fail
          generalize (w.alloc (.cells #[.string s0, .string s1, .string s2, .string s3, .string s4, .string s5, .bool true, .bool false, .bool false, .bool false] 24)).alloc (.cells #[.pointer none, .slice none 0 0] 40) = w0 at *
          refine (hS.write _ (by simp [bytes_app, bytes_len, ByteArray.size_append, len1, len3]; omega)).mono ?_
          clear hS
          rintro e w1 ⟨rfl, hS⟩
          have c0 : w1.cell? ⟨w.heap.size, 0, none⟩ = some (.string s0) := hS.row.cell (i := 0) (by omega)
          have c1 : w1.cell? ⟨w.heap.size, 1, none⟩ = some (.string s1) := hS.row.cell (i := 1) (by omega)
          have c2 : w1.cell? ⟨w.heap.size, 2, none⟩ = some (.string s2) := hS.row.cell (i := 2) (by omega)
          have c3 : w1.cell? ⟨w.heap.size, 3, none⟩ = some (.string s3) := hS.row.cell (i := 3) (by omega)
          have c4 : w1.cell? ⟨w.heap.size, 4, none⟩ = some (.string s4) := hS.row.cell (i := 4) (by omega)
          have c5 : w1.cell? ⟨w.heap.size, 5, none⟩ = some (.string s5) := hS.row.cell (i := 5) (by omega)
          have c6 : w1.cell? ⟨w.heap.size, 6, none⟩ = some (.bool true) := hS.row.cell (i := 6) (by omega)
          have c7 : w1.cell? ⟨w.heap.size, 7, none⟩ = some (.bool false) := hS.row.cell (i := 7) (by omega)
          have c8 : w1.cell? ⟨w.heap.size, 8, none⟩ = some (.bool false) := hS.row.cell (i := 8) (by omega)
          have c9 : w1.cell? ⟨w.heap.size, 9, none⟩ = some (.bool false) := hS.row.cell (i := 9) (by omega)
          go_wp2_with fail
          clear c0 c1 c2 c3 c4 c5 c6 c7 c8 c9
          refine (hS.write _ (by simp [bytes_app, bytes_len, ByteArray.size_append, len1, len3]; omega)).mono ?_
          clear hS
          rintro e w2 ⟨rfl, hS⟩
          have c0 : w2.cell? ⟨w.heap.size, 0, none⟩ = some (.string s0) := hS.row.cell (i := 0) (by omega)
          have c1 : w2.cell? ⟨w.heap.size, 1, none⟩ = some (.string s1) := hS.row.cell (i := 1) (by omega)
          have c2 : w2.cell? ⟨w.heap.size, 2, none⟩ = some (.string s2) := hS.row.cell (i := 2) (by omega)
          have c3 : w2.cell? ⟨w.heap.size, 3, none⟩ = some (.string s3) := hS.row.cell (i := 3) (by omega)
          have c4 : w2.cell? ⟨w.heap.size, 4, none⟩ = some (.string s4) := hS.row.cell (i := 4) (by omega)
          have c5 : w2.cell? ⟨w.heap.size, 5, none⟩ = some (.string s5) := hS.row.cell (i := 5) (by omega)
          have c6 : w2.cell? ⟨w.heap.size, 6, none⟩ = some (.bool true) := hS.row.cell (i := 6) (by omega)
          have c7 : w2.cell? ⟨w.heap.size, 7, none⟩ = some (.bool false) := hS.row.cell (i := 7) (by omega)
          have c8 : w2.cell? ⟨w.heap.size, 8, none⟩ = some (.bool false) := hS.row.cell (i := 8) (by omega)
          have c9 : w2.cell? ⟨w.heap.size, 9, none⟩ = some (.bool false) := hS.row.cell (i := 9) (by omega)
          go_wp2_with fail
          clear c0 c1 c2 c3 c4 c5 c6 c7 c8 c9
          refine (hS.write _ (by simp [bytes_app, bytes_len, ByteArray.size_append, len1, len3]; omega)).mono ?_
          clear hS
          rintro e w3 ⟨rfl, hS⟩
          have c0 : w3.cell? ⟨w.heap.size, 0, none⟩ = some (.string s0) := hS.row.cell (i := 0) (by omega)
          have c1 : w3.cell? ⟨w.heap.size, 1, none⟩ = some (.string s1) := hS.row.cell (i := 1) (by omega)
          have c2 : w3.cell? ⟨w.heap.size, 2, none⟩ = some (.string s2) := hS.row.cell (i := 2) (by omega)
          have c3 : w3.cell? ⟨w.heap.size, 3, none⟩ = some (.string s3) := hS.row.cell (i := 3) (by omega)
          have c4 : w3.cell? ⟨w.heap.size, 4, none⟩ = some (.string s4) := hS.row.cell (i := 4) (by omega)
          have c5 : w3.cell? ⟨w.heap.size, 5, none⟩ = some (.string s5) := hS.row.cell (i := 5) (by omega)
          have c6 : w3.cell? ⟨w.heap.size, 6, none⟩ = some (.bool true) := hS.row.cell (i := 6) (by omega)
          have c7 : w3.cell? ⟨w.heap.size, 7, none⟩ = some (.bool false) := hS.row.cell (i := 7) (by omega)
          have c8 : w3.cell? ⟨w.heap.size, 8, none⟩ = some (.bool false) := hS.row.cell (i := 8) (by omega)
          have c9 : w3.cell? ⟨w.heap.size, 9, none⟩ = some (.bool false) := hS.row.cell (i := 9) (by omega)
          go_wp2_with fail
          clear c0 c1 c2 c3 c4 c5 c6 c7 c8 c9
          refine hS.done.mono ?_
          rintro e wz ⟨rfl, hbz⟩
          clear hS
          go_wp2_with fail
          go_ret
          refine ⟨?_, hbz⟩
          simp [text, auth, bytes_app, bytesOf]
  | false =>
    cases b8 with
    | true =>
      cases b9 with
      | true =>
        go_wp2_with fail
        generalize (w.alloc (.cells #[.string s0, .string s1, .string s2, .string s3, .string s4, .string s5, .bool false, .bool b7, .bool true, .bool true] 24)).alloc (.cells #[.pointer none, .slice none 0 0] 40) = w0 at *
        refine (hS.write _ (by simp [bytes_app, bytes_len, ByteArray.size_append, len1, len3]; omega)).mono ?_
        clear hS
        rintro e w1 ⟨rfl, hS⟩
        have c0 : w1.cell? ⟨w.heap.size, 0, none⟩ = some (.string s0) := hS.row.cell (i := 0) (by omega)
        have c1 : w1.cell? ⟨w.heap.size, 1, none⟩ = some (.string s1) := hS.row.cell (i := 1) (by omega)
        have c2 : w1.cell? ⟨w.heap.size, 2, none⟩ = some (.string s2) := hS.row.cell (i := 2) (by omega)
        have c3 : w1.cell? ⟨w.heap.size, 3, none⟩ = some (.string s3) := hS.row.cell (i := 3) (by omega)
        have c4 : w1.cell? ⟨w.heap.size, 4, none⟩ = some (.string s4) := hS.row.cell (i := 4) (by omega)
        have c5 : w1.cell? ⟨w.heap.size, 5, none⟩ = some (.string s5) := hS.row.cell (i := 5) (by omega)
        have c6 : w1.cell? ⟨w.heap.size, 6, none⟩ = some (.bool false) := hS.row.cell (i := 6) (by omega)
        have c7 : w1.cell? ⟨w.heap.size, 7, none⟩ = some (.bool b7) := hS.row.cell (i := 7) (by omega)
        have c8 : w1.cell? ⟨w.heap.size, 8, none⟩ = some (.bool true) := hS.row.cell (i := 8) (by omega)
        have c9 : w1.cell? ⟨w.heap.size, 9, none⟩ = some (.bool true) := hS.row.cell (i := 9) (by omega)
        go_wp2_with fail
        clear c0 c1 c2 c3 c4 c5 c6 c7 c8 c9
        refine (hS.write _ (by simp [bytes_app, bytes_len, ByteArray.size_append, len1, len3]; omega)).mono ?_
        clear hS
        rintro e w2 ⟨rfl, hS⟩
        have c0 : w2.cell? ⟨w.heap.size, 0, none⟩ = some (.string s0) := hS.row.cell (i := 0) (by omega)
        have c1 : w2.cell? ⟨w.heap.size, 1, none⟩ = some (.string s1) := hS.row.cell (i := 1) (by omega)
        have c2 : w2.cell? ⟨w.heap.size, 2, none⟩ = some (.string s2) := hS.row.cell (i := 2) (by omega)
        have c3 : w2.cell? ⟨w.heap.size, 3, none⟩ = some (.string s3) := hS.row.cell (i := 3) (by omega)
        have c4 : w2.cell? ⟨w.heap.size, 4, none⟩ = some (.string s4) := hS.row.cell (i := 4) (by omega)
        have c5 : w2.cell? ⟨w.heap.size, 5, none⟩ = some (.string s5) := hS.row.cell (i := 5) (by omega)
        have c6 : w2.cell? ⟨w.heap.size, 6, none⟩ = some (.bool false) := hS.row.cell (i := 6) (by omega)
        have c7 : w2.cell? ⟨w.heap.size, 7, none⟩ = some (.bool b7) := hS.row.cell (i := 7) (by omega)
        have c8 : w2.cell? ⟨w.heap.size, 8, none⟩ = some (.bool true) := hS.row.cell (i := 8) (by omega)
        have c9 : w2.cell? ⟨w.heap.size, 9, none⟩ = some (.bool true) := hS.row.cell (i := 9) (by omega)
        go_wp2_with fail
        clear c0 c1 c2 c3 c4 c5 c6 c7 c8 c9
        refine (hS.write _ (by simp [bytes_app, bytes_len, ByteArray.size_append, len1, len3]; omega)).mono ?_
        clear hS
        rintro e w3 ⟨rfl, hS⟩
        have c0 : w3.cell? ⟨w.heap.size, 0, none⟩ = some (.string s0) := hS.row.cell (i := 0) (by omega)
        have c1 : w3.cell? ⟨w.heap.size, 1, none⟩ = some (.string s1) := hS.row.cell (i := 1) (by omega)
        have c2 : w3.cell? ⟨w.heap.size, 2, none⟩ = some (.string s2) := hS.row.cell (i := 2) (by omega)
        have c3 : w3.cell? ⟨w.heap.size, 3, none⟩ = some (.string s3) := hS.row.cell (i := 3) (by omega)
        have c4 : w3.cell? ⟨w.heap.size, 4, none⟩ = some (.string s4) := hS.row.cell (i := 4) (by omega)
        have c5 : w3.cell? ⟨w.heap.size, 5, none⟩ = some (.string s5) := hS.row.cell (i := 5) (by omega)
        have c6 : w3.cell? ⟨w.heap.size, 6, none⟩ = some (.bool false) := hS.row.cell (i := 6) (by omega)
        have c7 : w3.cell? ⟨w.heap.size, 7, none⟩ = some (.bool b7) := hS.row.cell (i := 7) (by omega)
        have c8 : w3.cell? ⟨w.heap.size, 8, none⟩ = some (.bool true) := hS.row.cell (i := 8) (by omega)
        have c9 : w3.cell? ⟨w.heap.size, 9, none⟩ = some (.bool true) := hS.row.cell (i := 9) (by omega)
        go_wp2_with fail
        clear c0 c1 c2 c3 c4 c5 c6 c7 c8 c9
        refine hS.done.mono ?_
        rintro e wz ⟨rfl, hbz⟩
        clear hS
        go_wp2_with fail
        go_ret
        refine ⟨?_, hbz⟩
        simp [text, auth, bytes_app, bytesOf]
      | false =>
        go_wp2_with fail
        generalize (w.alloc (.cells #[.string s0, .string s1, .string s2, .string s3, .string s4, .string s5, .bool false, .bool b7, .bool true, .bool false] 24)).alloc (.cells #[.pointer none, .slice none 0 0] 40) = w0 at *
        refine (hS.write _ (by simp [bytes_app, bytes_len, ByteArray.size_append, len1, len3]; omega)).mono ?_
        clear hS
        rintro e w1 ⟨rfl, hS⟩
        have c0 : w1.cell? ⟨w.heap.size, 0, none⟩ = some (.string s0) := hS.row.cell (i := 0) (by omega)
        have c1 : w1.cell? ⟨w.heap.size, 1, none⟩ = some (.string s1) := hS.row.cell (i := 1) (by omega)
        have c2 : w1.cell? ⟨w.heap.size, 2, none⟩ = some (.string s2) := hS.row.cell (i := 2) (by omega)
        have c3 : w1.cell? ⟨w.heap.size, 3, none⟩ = some (.string s3) := hS.row.cell (i := 3) (by omega)
        have c4 : w1.cell? ⟨w.heap.size, 4, none⟩ = some (.string s4) := hS.row.cell (i := 4) (by omega)
        have c5 : w1.cell? ⟨w.heap.size, 5, none⟩ = some (.string s5) := hS.row.cell (i := 5) (by omega)
        have c6 : w1.cell? ⟨w.heap.size, 6, none⟩ = some (.bool false) := hS.row.cell (i := 6) (by omega)
        have c7 : w1.cell? ⟨w.heap.size, 7, none⟩ = some (.bool b7) := hS.row.cell (i := 7) (by omega)
        have c8 : w1.cell? ⟨w.heap.size, 8, none⟩ = some (.bool true) := hS.row.cell (i := 8) (by omega)
        have c9 : w1.cell? ⟨w.heap.size, 9, none⟩ = some (.bool false) := hS.row.cell (i := 9) (by omega)
        go_wp2_with fail
        clear c0 c1 c2 c3 c4 c5 c6 c7 c8 c9
        refine (hS.write _ (by simp [bytes_app, bytes_len, ByteArray.size_append, len1, len3]; omega)).mono ?_
        clear hS
        rintro e w2 ⟨rfl, hS⟩
        have c0 : w2.cell? ⟨w.heap.size, 0, none⟩ = some (.string s0) := hS.row.cell (i := 0) (by omega)
        have c1 : w2.cell? ⟨w.heap.size, 1, none⟩ = some (.string s1) := hS.row.cell (i := 1) (by omega)
        have c2 : w2.cell? ⟨w.heap.size, 2, none⟩ = some (.string s2) := hS.row.cell (i := 2) (by omega)
        have c3 : w2.cell? ⟨w.heap.size, 3, none⟩ = some (.string s3) := hS.row.cell (i := 3) (by omega)
        have c4 : w2.cell? ⟨w.heap.size, 4, none⟩ = some (.string s4) := hS.row.cell (i := 4) (by omega)
        have c5 : w2.cell? ⟨w.heap.size, 5, none⟩ = some (.string s5) := hS.row.cell (i := 5) (by omega)
        have c6 : w2.cell? ⟨w.heap.size, 6, none⟩ = some (.bool false) := hS.row.cell (i := 6) (by omega)
        have c7 : w2.cell? ⟨w.heap.size, 7, none⟩ = some (.bool b7) := hS.row.cell (i := 7) (by omega)
        have c8 : w2.cell? ⟨w.heap.size, 8, none⟩ = some (.bool true) := hS.row.cell (i := 8) (by omega)
        have c9 : w2.cell? ⟨w.heap.size, 9, none⟩ = some (.bool false) := hS.row.cell (i := 9) (by omega)
        go_wp2_with fail
        clear c0 c1 c2 c3 c4 c5 c6 c7 c8 c9
        refine hS.done.mono ?_
        rintro e wz ⟨rfl, hbz⟩
        clear hS
        go_wp2_with fail
        go_ret
        refine ⟨?_, hbz⟩
        simp [text, auth, bytes_app, bytesOf]
    | false =>
      cases b9 with
      | true =>
        go_wp2_with fail
        generalize (w.alloc (.cells #[.string s0, .string s1, .string s2, .string s3, .string s4, .string s5, .bool false, .bool b7, .bool false, .bool true] 24)).alloc (.cells #[.pointer none, .slice none 0 0] 40) = w0 at *
        refine (hS.write _ (by simp [bytes_app, bytes_len, ByteArray.size_append, len1, len3]; omega)).mono ?_
        clear hS
        rintro e w1 ⟨rfl, hS⟩
        have c0 : w1.cell? ⟨w.heap.size, 0, none⟩ = some (.string s0) := hS.row.cell (i := 0) (by omega)
        have c1 : w1.cell? ⟨w.heap.size, 1, none⟩ = some (.string s1) := hS.row.cell (i := 1) (by omega)
        have c2 : w1.cell? ⟨w.heap.size, 2, none⟩ = some (.string s2) := hS.row.cell (i := 2) (by omega)
        have c3 : w1.cell? ⟨w.heap.size, 3, none⟩ = some (.string s3) := hS.row.cell (i := 3) (by omega)
        have c4 : w1.cell? ⟨w.heap.size, 4, none⟩ = some (.string s4) := hS.row.cell (i := 4) (by omega)
        have c5 : w1.cell? ⟨w.heap.size, 5, none⟩ = some (.string s5) := hS.row.cell (i := 5) (by omega)
        have c6 : w1.cell? ⟨w.heap.size, 6, none⟩ = some (.bool false) := hS.row.cell (i := 6) (by omega)
        have c7 : w1.cell? ⟨w.heap.size, 7, none⟩ = some (.bool b7) := hS.row.cell (i := 7) (by omega)
        have c8 : w1.cell? ⟨w.heap.size, 8, none⟩ = some (.bool false) := hS.row.cell (i := 8) (by omega)
        have c9 : w1.cell? ⟨w.heap.size, 9, none⟩ = some (.bool true) := hS.row.cell (i := 9) (by omega)
        go_wp2_with fail
        clear c0 c1 c2 c3 c4 c5 c6 c7 c8 c9
        refine (hS.write _ (by simp [bytes_app, bytes_len, ByteArray.size_append, len1, len3]; omega)).mono ?_
        clear hS
        rintro e w2 ⟨rfl, hS⟩
        have c0 : w2.cell? ⟨w.heap.size, 0, none⟩ = some (.string s0) := hS.row.cell (i := 0) (by omega)
        have c1 : w2.cell? ⟨w.heap.size, 1, none⟩ = some (.string s1) := hS.row.cell (i := 1) (by omega)
        have c2 : w2.cell? ⟨w.heap.size, 2, none⟩ = some (.string s2) := hS.row.cell (i := 2) (by omega)
        have c3 : w2.cell? ⟨w.heap.size, 3, none⟩ = some (.string s3) := hS.row.cell (i := 3) (by omega)
        have c4 : w2.cell? ⟨w.heap.size, 4, none⟩ = some (.string s4) := hS.row.cell (i := 4) (by omega)
        have c5 : w2.cell? ⟨w.heap.size, 5, none⟩ = some (.string s5) := hS.row.cell (i := 5) (by omega)
        have c6 : w2.cell? ⟨w.heap.size, 6, none⟩ = some (.bool false) := hS.row.cell (i := 6) (by omega)
        have c7 : w2.cell? ⟨w.heap.size, 7, none⟩ = some (.bool b7) := hS.row.cell (i := 7) (by omega)
        have c8 : w2.cell? ⟨w.heap.size, 8, none⟩ = some (.bool false) := hS.row.cell (i := 8) (by omega)
        have c9 : w2.cell? ⟨w.heap.size, 9, none⟩ = some (.bool true) := hS.row.cell (i := 9) (by omega)
        go_wp2_with fail
        clear c0 c1 c2 c3 c4 c5 c6 c7 c8 c9
        refine hS.done.mono ?_
        rintro e wz ⟨rfl, hbz⟩
        clear hS
        go_wp2_with fail
        go_ret
        refine ⟨?_, hbz⟩
        simp [text, auth, bytes_app, bytesOf]
      | false =>
        go_wp2_with fail
        generalize (w.alloc (.cells #[.string s0, .string s1, .string s2, .string s3, .string s4, .string s5, .bool false, .bool b7, .bool false, .bool false] 24)).alloc (.cells #[.pointer none, .slice none 0 0] 40) = w0 at *
        refine (hS.write _ (by simp [bytes_app, bytes_len, ByteArray.size_append, len1, len3]; omega)).mono ?_
        clear hS
        rintro e w1 ⟨rfl, hS⟩
        have c0 : w1.cell? ⟨w.heap.size, 0, none⟩ = some (.string s0) := hS.row.cell (i := 0) (by omega)
        have c1 : w1.cell? ⟨w.heap.size, 1, none⟩ = some (.string s1) := hS.row.cell (i := 1) (by omega)
        have c2 : w1.cell? ⟨w.heap.size, 2, none⟩ = some (.string s2) := hS.row.cell (i := 2) (by omega)
        have c3 : w1.cell? ⟨w.heap.size, 3, none⟩ = some (.string s3) := hS.row.cell (i := 3) (by omega)
        have c4 : w1.cell? ⟨w.heap.size, 4, none⟩ = some (.string s4) := hS.row.cell (i := 4) (by omega)
        have c5 : w1.cell? ⟨w.heap.size, 5, none⟩ = some (.string s5) := hS.row.cell (i := 5) (by omega)
        have c6 : w1.cell? ⟨w.heap.size, 6, none⟩ = some (.bool false) := hS.row.cell (i := 6) (by omega)
        have c7 : w1.cell? ⟨w.heap.size, 7, none⟩ = some (.bool b7) := hS.row.cell (i := 7) (by omega)
        have c8 : w1.cell? ⟨w.heap.size, 8, none⟩ = some (.bool false) := hS.row.cell (i := 8) (by omega)
        have c9 : w1.cell? ⟨w.heap.size, 9, none⟩ = some (.bool false) := hS.row.cell (i := 9) (by omega)
        go_wp2_with fail
        clear c0 c1 c2 c3 c4 c5 c6 c7 c8 c9
        refine hS.done.mono ?_
        rintro e wz ⟨rfl, hbz⟩
        clear hS
        go_wp2_with fail
        go_ret
        refine ⟨?_, hbz⟩
        simp [text, auth, bytes_app, bytesOf]
end Go.Proofs.Qxb6600295a
