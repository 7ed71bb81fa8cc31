/-
  The seat's own text: the walk of urlPartsReadable.
-/
import Derived.Test.Qxb6600295aBase
namespace Go.Proofs.Qxb6600295a
open Go.RowKit Go.Deep Plain

def partsOf (s0 s1 s2 s3 s4 s5 : ByteArray) (b6 b7 b8 b9 : Bool) : Parts := ⟨bytesOf s0, bytesOf s1, bytesOf s2, bytesOf s3, bytesOf s4, bytesOf s5, b6, b7, b8, b9⟩
def ReadPost (p : Parts) (w : World) (e : Ending) (w' : World) : Prop := Below w.heap.size w w' ∧ ∃ b : Bool, e = .returned (.bool b) ∧ (b = true → Readable p)
theorem ReadPost.no {p : Parts} {w w' : World} (h : Below w.heap.size w w') : ReadPost p w (.returned (.bool false)) w' := ⟨h, false, rfl, fun h => by cases h⟩

theorem emp (b : Bool) (s : ByteArray) : b = true ∨ (b = false ∧ s.toList.isEmpty = true) ∨ (b = false ∧ s.toList.isEmpty = false) := by
  cases h : s.toList.isEmpty <;> cases b <;> simp
theorem size_pos {s : ByteArray} (h : s.toList.isEmpty = false) : 0 < s.size := by
  rw [Lib.toList_data] at h
  rw [Lib.size_eq]
  cases hs : s.data.toList with
  | nil => rw [hs] at h; cases h
  | cons x r => simp
theorem emp_bytes {s : ByteArray} (h : s.toList.isEmpty = true) : bytesOf s = [] := by
  rw [List.isEmpty_iff, Lib.toList_data] at h
  exact h

set_option maxHeartbeats 1600000 in
theorem read_any (s0 s1 s2 s3 s4 s5 : ByteArray) (b6 b7 b8 b9 : Bool) (w : World) (h0 : s0.size ≤ 1048576) (h1 : s1.size ≤ 1048576) (h2 : s2.size ≤ 1048576) (h3 : s3.size ≤ 1048576) (h4 : s4.size ≤ 1048576) :
    Calls Try.prog 9 #[.string s0, .string s1, .string s2, .string s3, .string s4, .string s5, .bool b6, .bool b7, .bool b8, .bool b9] w (ReadPost (partsOf s0 s1 s2 s3 s4 s5 b6 b7 b8 b9) w) := by
  obtain ⟨p, hp⟩ : ∃ p, Hid (partsOf s0 s1 s2 s3 s4 s5 b6 b7 b8 b9 = p) := ⟨_, rfl⟩
  rw [hp.out]
  go_enter Try.func9, Try.ntmps9
  go_wp2_with fail
  refine (any_of s3 ⟨#[63, 35]⟩ w (by omega) (by decide)).mono ?_
  rintro e w1 ⟨_, hb1, b, rfl, hf1⟩
  cases b with
  | true =>
    go_wp2_with fail
    go_ret
    exact ReadPost.no hb1
  | false =>
    have F1 := hf1 rfl
    clear hf1
    go_wp2_with fail
    refine (any_of s4 ⟨#[35]⟩ w1 (by omega) (by decide)).mono ?_
    rintro e w2 ⟨_, hb2', b, rfl, hf2⟩
    have hb2 := hb1.trans (hb2'.mono hb1.size)
    clear hb1 hb2'
    cases b with
    | true =>
      go_wp2_with fail
      go_ret
      exact ReadPost.no hb2
    | false =>
      have F2 := hf2 rfl
      clear hf2
      have HF : Hid (free (bytesOf s3) (bytesOf ⟨#[63, 35]⟩) ∧ free (bytesOf s4) (bytesOf ⟨#[35]⟩)) := ⟨F1, F2⟩
      clear F1 F2
      rcases emp b7 s1 with rfl | ⟨rfl, q1⟩ | ⟨rfl, q1⟩
      case inr.inr =>
        go_wp2_with fail
        all_goals go_ret
        all_goals exact ReadPost.no hb2
      case inl =>
        rcases emp b8 s4 with rfl | ⟨rfl, q4⟩ | ⟨rfl, q4⟩
        case inr.inr =>
          go_wp2_with fail
          all_goals go_ret
          all_goals exact ReadPost.no hb2
        all_goals rcases emp b9 s5 with rfl | ⟨rfl, q5⟩ | ⟨rfl, q5⟩
        case inl.inr.inr | inr.inl.inr.inr =>
          go_wp2_with fail
          all_goals go_ret
          all_goals exact ReadPost.no hb2
        all_goals cases b6 with
          | true =>
            go_wp2_with fail
            refine (any_of s0 ⟨#[58, 47, 63, 35]⟩ w2 (by omega) (by decide)).mono ?_
            rintro e w3 ⟨_, hb3', b, rfl, hf3⟩
            have hb3 := hb2.trans (hb3'.mono hb2.size)
            clear hb3'
            cases b with
            | true =>
              go_wp2_with fail
              go_ret
              exact ReadPost.no hb3
            | false =>
              have F3 : Hid (free (bytesOf s0) (bytesOf ⟨#[58, 47, 63, 35]⟩)) := hf3 rfl
              clear hf3
              go_wp2_with fail
              refine (any_of s2 ⟨#[47, 63, 35, 64]⟩ w3 (by omega) (by decide)).mono ?_
              rintro e w4 ⟨_, hb4', b, rfl, hf4⟩
              have hb4 := hb3.trans (hb4'.mono hb3.size)
              clear hb4'
              cases b with
              | true =>
                go_wp2_with fail
                go_ret
                exact ReadPost.no hb4
              | false =>
                have F4 : Hid (free (bytesOf s2) (bytesOf ⟨#[47, 63, 35, 64]⟩)) := hf4 rfl
                clear hf4
                go_wp2_with fail
                refine (any_of s1 ⟨#[47, 63, 35, 64]⟩ w4 (by omega) (by decide)).mono ?_
                rintro e w5 ⟨_, hb5', b, rfl, hf5⟩
                have hbl := hb4.trans (hb5'.mono hb4.size)
                clear hb5'
                cases b with
                | true =>
                  go_wp2_with fail
                  go_ret
                  exact ReadPost.no hbl
                | false =>
                  have F5 : Hid (free (bytesOf s1) (bytesOf ⟨#[47, 63, 35, 64]⟩)) := hf5 rfl
                  clear hf5
                  by_cases e3 : s3.toList.isEmpty = true
                  · have HR : ReadPost p w (.returned (.bool true)) w5 := ⟨hbl, true, rfl, fun _ => hp.out ▸ ⟨HF.out.1, HF.out.2, by first | (intro h; cases h; done) | (exact fun _ => emp_bytes q4), by first | (intro h; cases h; done) | (exact fun _ => emp_bytes q5), by first | (intro h; cases h; done) | (exact fun _ => emp_bytes q1), fun _ => ⟨F3.out, F4.out, fun _ => F5.out, .inl (emp_bytes e3)⟩, fun h => by cases h⟩⟩
                    clear HF F3 F4
                    go_wp2_with fail
                    go_ret
                    exact HR
                  · have e3' : s3.toList.isEmpty = false := by simpa using e3
                    have hpos : 0 < s3.size := size_pos e3'
                    have hpos' : (0 : Int) < (s3.size : Int) := by omega
                    by_cases hc : s3[0] = 47
                    · have e : (((s3[0].toNat : Nat) : Int) == 47) = true := u8_eq (b := 47) hc
                      have HR : ReadPost p w (.returned (.bool true)) w5 := ⟨hbl, true, rfl, fun _ => hp.out ▸ ⟨HF.out.1, HF.out.2, by first | (intro h; cases h; done) | (exact fun _ => emp_bytes q4), by first | (intro h; cases h; done) | (exact fun _ => emp_bytes q5), by first | (intro h; cases h; done) | (exact fun _ => emp_bytes q1), fun _ => ⟨F3.out, F4.out, fun _ => F5.out, .inr ⟨_, (bytes_drop s3 0 hpos).trans (by rw [hc])⟩⟩, fun h => by cases h⟩⟩
                      clear HF F3 F4 e3 hc
                      go_wp2_with fail
                      go_ret
                      exact HR
                    · have e : (((s3[0].toNat : Nat) : Int) == 47) = false := u8_ne (b := 47) hc
                      clear HF F3 F4 e3 hc
                      go_wp2_with fail
                      go_ret
                      exact ReadPost.no hbl
          | false =>
            go_wp2_with fail
            all_goals go_ret
            all_goals exact ReadPost.no hb2
      case inr.inl =>
        rcases emp b8 s4 with rfl | ⟨rfl, q4⟩ | ⟨rfl, q4⟩
        case inr.inr =>
          go_wp2_with fail
          all_goals go_ret
          all_goals exact ReadPost.no hb2
        all_goals rcases emp b9 s5 with rfl | ⟨rfl, q5⟩ | ⟨rfl, q5⟩
        case inl.inr.inr | inr.inl.inr.inr =>
          go_wp2_with fail
          all_goals go_ret
          all_goals exact ReadPost.no hb2
        all_goals cases b6 with
          | true =>
            go_wp2_with fail
            refine (any_of s0 ⟨#[58, 47, 63, 35]⟩ w2 (by omega) (by decide)).mono ?_
            rintro e w3 ⟨_, hb3', b, rfl, hf3⟩
            have hb3 := hb2.trans (hb3'.mono hb2.size)
            clear hb3'
            cases b with
            | true =>
              go_wp2_with fail
              go_ret
              exact ReadPost.no hb3
            | false =>
              have F3 : Hid (free (bytesOf s0) (bytesOf ⟨#[58, 47, 63, 35]⟩)) := hf3 rfl
              clear hf3
              go_wp2_with fail
              refine (any_of s2 ⟨#[47, 63, 35, 64]⟩ w3 (by omega) (by decide)).mono ?_
              rintro e w4 ⟨_, hb4', b, rfl, hf4⟩
              have hb4 := hb3.trans (hb4'.mono hb3.size)
              clear hb4'
              cases b with
              | true =>
                go_wp2_with fail
                go_ret
                exact ReadPost.no hb4
              | false =>
                have F4 : Hid (free (bytesOf s2) (bytesOf ⟨#[47, 63, 35, 64]⟩)) := hf4 rfl
                clear hf4
                have hbl := hb4
                by_cases e3 : s3.toList.isEmpty = true
                · have HR : ReadPost p w (.returned (.bool true)) w4 := ⟨hbl, true, rfl, fun _ => hp.out ▸ ⟨HF.out.1, HF.out.2, by first | (intro h; cases h; done) | (exact fun _ => emp_bytes q4), by first | (intro h; cases h; done) | (exact fun _ => emp_bytes q5), by first | (intro h; cases h; done) | (exact fun _ => emp_bytes q1), fun _ => ⟨F3.out, F4.out, (fun h => by cases h), .inl (emp_bytes e3)⟩, fun h => by cases h⟩⟩
                  clear HF F3 F4
                  go_wp2_with fail
                  go_ret
                  exact HR
                · have e3' : s3.toList.isEmpty = false := by simpa using e3
                  have hpos : 0 < s3.size := size_pos e3'
                  have hpos' : (0 : Int) < (s3.size : Int) := by omega
                  by_cases hc : s3[0] = 47
                  · have e : (((s3[0].toNat : Nat) : Int) == 47) = true := u8_eq (b := 47) hc
                    have HR : ReadPost p w (.returned (.bool true)) w4 := ⟨hbl, true, rfl, fun _ => hp.out ▸ ⟨HF.out.1, HF.out.2, by first | (intro h; cases h; done) | (exact fun _ => emp_bytes q4), by first | (intro h; cases h; done) | (exact fun _ => emp_bytes q5), by first | (intro h; cases h; done) | (exact fun _ => emp_bytes q1), fun _ => ⟨F3.out, F4.out, (fun h => by cases h), .inr ⟨_, (bytes_drop s3 0 hpos).trans (by rw [hc])⟩⟩, fun h => by cases h⟩⟩
                    clear HF F3 F4 e3 hc
                    go_wp2_with fail
                    go_ret
                    exact HR
                  · have e : (((s3[0].toNat : Nat) : Int) == 47) = false := u8_ne (b := 47) hc
                    clear HF F3 F4 e3 hc
                    go_wp2_with fail
                    go_ret
                    exact ReadPost.no hbl
          | false =>
            by_cases e0 : s0.toList.isEmpty = true
            · by_cases e2 : s2.toList.isEmpty = true
              · go_wp2_with fail
                refine (scheme_any s3 w2 (by omega)).mono ?_
                rintro e w3 ⟨rfl, hse⟩
                rcases hse with ⟨rfl, hse⟩ | ⟨k, rfl, hse⟩
                · have HR : ReadPost p w (.returned (.bool true)) w3 := ⟨hb2, true, rfl, fun _ => hp.out ▸ ⟨HF.out.1, HF.out.2, by first | (intro h; cases h; done) | (exact fun _ => emp_bytes q4), by first | (intro h; cases h; done) | (exact fun _ => emp_bytes q5), by first | (intro h; cases h; done) | (exact fun _ => emp_bytes q1), (fun h => by cases h), fun _ => ⟨emp_bytes e0, emp_bytes q1, emp_bytes e2, rfl, hse⟩⟩⟩
                  clear HF hse
                  go_wp2_with fail
                  go_ret
                  exact HR
                · clear hse
                  go_wp2_with fail
                  go_ret
                  exact ReadPost.no hb2
              · have e2' : s2.toList.isEmpty = false := by simpa using e2
                clear e2
                go_wp2_with fail
                all_goals go_ret
                all_goals exact ReadPost.no hb2
            · have e0' : s0.toList.isEmpty = false := by simpa using e0
              clear e0
              go_wp2_with fail
              all_goals go_ret
              all_goals exact ReadPost.no hb2
end Go.Proofs.Qxb6600295a
