/-
  The seat's own text: what cutURL's walk leans on.
-/
import Derived.Test.Qxb6600295aText
import Derived.Test.Qxb6600295aRead
namespace Go.Proofs.Qxb6600295a
open Go.RowKit Go.Deep Plain

theorem bytes_extract (s : ByteArray) (a b : Nat) : bytesOf (s.extract a b) = ((bytesOf s).drop a).take (b - a) := Lib.extract_data s a b
theorem bytes_head (s : ByteArray) (k : Nat) : bytesOf (s.extract 0 k) = (bytesOf s).take k := by rw [bytes_extract]; simp
theorem bytes_tail (s : ByteArray) (k : Nat) : bytesOf (s.extract k s.size) = (bytesOf s).drop k := by
  rw [bytes_extract]
  exact List.take_of_length_le (by rw [List.length_drop, bytes_len]; omega)
theorem ix_lt {c : UInt8} {l : List UInt8} {k : Nat} (h : ix c l = some k) : k < l.length := by
  induction l generalizing k with
  | nil => cases h
  | cons x r ih =>
    rw [ix] at h
    by_cases hx : x = c
    · rw [if_pos hx] at h; cases h; simp
    · rw [if_neg hx] at h
      obtain ⟨j, hj, rfl⟩ := Option.map_eq_some_iff.1 h
      have := ih hj
      simp; omega
theorem ss_len {l : List UInt8} (h : isSS l = true) : 2 ≤ l.length := by
  match l, h with
  | _ :: _ :: _, _ => simp
theorem se_lt {l : List UInt8} {k : Nat} (h : se l = some k) : k + 3 ≤ l.length := by
  induction l generalizing k with
  | nil => cases h
  | cons x r ih =>
    rw [se] at h
    by_cases h1 : x = 47
    · rw [if_pos h1] at h; cases h
    · rw [if_neg h1] at h
      by_cases h2 : x = 58
      · rw [if_pos h2] at h
        by_cases h3 : isSS r = true
        · rw [if_pos h3] at h; cases h; have := ss_len h3; simp; omega
        · rw [if_neg h3] at h; cases h
      · rw [if_neg h2] at h
        obtain ⟨j, hj, rfl⟩ := Option.map_eq_some_iff.1 h
        have := ih hj
        simp; omega
theorem off_no {c : UInt8} {s : ByteArray} (h : ix c (bytesOf s) = none) : off c (bytesOf s) = (bytesOf s, false, bytesOf ⟨#[]⟩) := by rw [off, h]; rfl
theorem off_yes {c : UInt8} {s : ByteArray} {k : Nat} (h : ix c (bytesOf s) = some k) : off c (bytesOf s) = (bytesOf (s.extract 0 k), true, bytesOf (s.extract (k + 1) s.size)) := by
  rw [off, h, bytes_head, bytes_tail]
theorem size_head (s : ByteArray) (k : Nat) (h : k ≤ s.size) : (s.extract 0 k).size = k := by rw [ByteArray.size_extract]; omega
theorem size_tail (s : ByteArray) (k : Nat) (h : k ≤ s.size) : (s.extract k s.size).size = s.size - k := by rw [ByteArray.size_extract]; omega

def CutPost (s : ByteArray) (w : World) (e : Ending) (w' : World) : Prop :=
  ∃ (s0 s1 s2 s3 s4 s5 : ByteArray) (b6 b7 b8 b9 : Bool), e = .returned (.agg #[.string s0, .string s1, .string s2, .string s3, .string s4, .string s5, .bool b6, .bool b7, .bool b8, .bool b9]) ∧ partsOf s0 s1 s2 s3 s4 s5 b6 b7 b8 b9 = cut (bytesOf s) ∧ Below w.heap.size w w'

end Go.Proofs.Qxb6600295a
