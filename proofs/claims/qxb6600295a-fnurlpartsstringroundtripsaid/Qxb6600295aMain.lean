/-
  The seat's own text: the walk of the law.
-/
import Derived.Test.Qxb6600295aCut
import Derived.Deep.RegionHeld3
namespace Go.Proofs.Qxb6600295a
open Go.RowKit Go.Deep Plain
set_option linter.unusedSimpArgs false

def BytesPost (w : World) (e : Ending) (w' : World) : Prop := ∃ b, e = .returned (.bool b) ∧ w' = w
set_option maxHeartbeats 1600000 in
theorem bytes_any (s0 s1 s2 s3 s4 s5 : ByteArray) (b6 b7 b8 b9 : Bool) (w : World) : Calls Try.prog 8 #[.string s0, .string s1, .string s2, .string s3, .string s4, .string s5, .bool b6, .bool b7, .bool b8, .bool b9] w (BytesPost w) := by
  by_cases h0 : (s0.size : Int) > 1048576
  · go_enter Try.func8, Try.ntmps8
    go_wp2
    go_ret
    exact ⟨_, rfl, rfl⟩
  by_cases h1 : (s1.size : Int) > 1048576
  · go_enter Try.func8, Try.ntmps8
    go_wp2
    go_ret
    exact ⟨_, rfl, rfl⟩
  by_cases h2 : (s0.size : Int) + (s1.size : Int) > 1048576
  · go_enter Try.func8, Try.ntmps8
    go_wp2
    go_ret
    exact ⟨_, rfl, rfl⟩
  by_cases h3 : (s2.size : Int) > 1048576
  · go_enter Try.func8, Try.ntmps8
    go_wp2
    go_ret
    exact ⟨_, rfl, rfl⟩
  by_cases h4 : (s0.size : Int) + (s1.size : Int) + (s2.size : Int) > 1048576
  · go_enter Try.func8, Try.ntmps8
    go_wp2
    go_ret
    exact ⟨_, rfl, rfl⟩
  by_cases h5 : (s3.size : Int) > 1048576
  · go_enter Try.func8, Try.ntmps8
    go_wp2
    go_ret
    exact ⟨_, rfl, rfl⟩
  by_cases h6 : (s0.size : Int) + (s1.size : Int) + (s2.size : Int) + (s3.size : Int) > 1048576
  · go_enter Try.func8, Try.ntmps8
    go_wp2
    go_ret
    exact ⟨_, rfl, rfl⟩
  by_cases h7 : (s4.size : Int) > 1048576
  · go_enter Try.func8, Try.ntmps8
    go_wp2
    go_ret
    exact ⟨_, rfl, rfl⟩
  by_cases h8 : (s0.size : Int) + (s1.size : Int) + (s2.size : Int) + (s3.size : Int) + (s4.size : Int) > 1048576
  · go_enter Try.func8, Try.ntmps8
    go_wp2
    go_ret
    exact ⟨_, rfl, rfl⟩
  by_cases h9 : (s5.size : Int) > 1048576
  · go_enter Try.func8, Try.ntmps8
    go_wp2
    go_ret
    exact ⟨_, rfl, rfl⟩
  by_cases h10 : (s0.size : Int) + (s1.size : Int) + (s2.size : Int) + (s3.size : Int) + (s4.size : Int) + (s5.size : Int) > 1048576
  · go_enter Try.func8, Try.ntmps8
    go_wp2
    go_ret
    exact ⟨_, rfl, rfl⟩
  go_enter Try.func8, Try.ntmps8
  go_wp2
  go_ret
  exact ⟨_, rfl, rfl⟩

def MainPost (w : World) (e : Ending) (w' : World) : Prop := e = .returned (.bool true) ∧ Below w.heap.size w w'
theorem bytes_inj {s t : ByteArray} (h : bytesOf s = bytesOf t) : s = t := by
  cases s with | mk x => cases t with | mk y => cases x; cases y; cases h; rfl
theorem of_bytes (s : ByteArray) : (⟨(bytesOf s).toArray⟩ : ByteArray) = s := bytes_inj (by simp [bytesOf])

theorem text_len (p : Parts) : (text p).length ≤ p.scheme.length + p.userinfo.length + p.hosts.length + p.path.length + p.query.length + p.fragment.length + 6 := by
  rcases p with ⟨p0, p1, p2, p3, p4, p5, q6, q7, q8, q9⟩
  cases q6 <;> cases q7 <;> cases q8 <;> cases q9 <;> simp [text, auth] <;> omega
theorem size_mk (l : List UInt8) : (⟨l.toArray⟩ : ByteArray).size = l.length := by rw [← bytes_len]; simp [bytesOf]
def BackPost (c : Array Value) (w : World) (e : Ending) (w' : World) : Prop := e = .returned (.agg c) ∧ Below w.heap.size w w'
theorem cut_back (s0 s1 s2 s3 s4 s5 : ByteArray) (b6 b7 b8 b9 : Bool) (w : World) (h0 : s0.size ≤ 1048576) (h1 : s1.size ≤ 1048576) (h2 : s2.size ≤ 1048576) (h3 : s3.size ≤ 1048576) (h4 : s4.size ≤ 1048576) (h5 : s5.size ≤ 1048576) (hR : Readable (partsOf s0 s1 s2 s3 s4 s5 b6 b7 b8 b9)) : Calls Try.prog 10 #[.string ⟨(text (partsOf s0 s1 s2 s3 s4 s5 b6 b7 b8 b9)).toArray⟩] w (BackPost #[.string s0, .string s1, .string s2, .string s3, .string s4, .string s5, .bool b6, .bool b7, .bool b8, .bool b9] w) := by
  have hl := text_len (partsOf s0 s1 s2 s3 s4 s5 b6 b7 b8 b9)
  simp only [partsOf, bytes_len] at hl
  have hsz : (⟨(text (partsOf s0 s1 s2 s3 s4 s5 b6 b7 b8 b9)).toArray⟩ : ByteArray).size ≤ 100000000 := by
    rw [size_mk]; unfold partsOf; omega
  refine (cut_any _ w hsz).mono ?_
  rintro e w' ⟨t0, t1, t2, t3, t4, t5, c6, c7, c8, c9, rfl, hp, hb⟩
  rw [show bytesOf (⟨(text (partsOf s0 s1 s2 s3 s4 s5 b6 b7 b8 b9)).toArray⟩ : ByteArray) = text (partsOf s0 s1 s2 s3 s4 s5 b6 b7 b8 b9) from by simp [bytesOf], cut_text _ hR] at hp
  unfold partsOf at hp
  injection hp with e0 e1 e2 e3 e4 e5 e6 e7 e8 e9
  obtain rfl := bytes_inj e0
  obtain rfl := bytes_inj e1
  obtain rfl := bytes_inj e2
  obtain rfl := bytes_inj e3
  obtain rfl := bytes_inj e4
  obtain rfl := bytes_inj e5
  subst e6 e7 e8 e9
  exact ⟨rfl, hb⟩
set_option maxHeartbeats 1600000 in
theorem main_any (s0 s1 s2 s3 s4 s5 : ByteArray) (b6 b7 b8 b9 : Bool) (w : World) : Calls Try.prog 3 #[.string s0, .string s1, .string s2, .string s3, .string s4, .string s5, .bool b6, .bool b7, .bool b8, .bool b9] w (MainPost w) := by
  go_enter Try.func3, Try.ntmps3
  go_wp2_with fail
  refine (bytes_any s0 s1 s2 s3 s4 s5 b6 b7 b8 b9 _).mono ?_
  rintro e w ⟨b, rfl, rfl⟩
  cases b with
  | false =>
    go_wp2_with fail
    go_ret
    exact ⟨rfl, Below.refl _ _⟩
  | true =>
  by_cases h0 : (s0.size : Int) > 1048576
  · go_wp2_with fail
    go_ret
    exact ⟨rfl, Below.refl _ _⟩
  by_cases h1 : (s1.size : Int) > 1048576
  · go_wp2_with fail
    go_ret
    exact ⟨rfl, Below.refl _ _⟩
  by_cases h2 : (s2.size : Int) > 1048576
  · go_wp2_with fail
    go_ret
    exact ⟨rfl, Below.refl _ _⟩
  by_cases h3 : (s3.size : Int) > 1048576
  · go_wp2_with fail
    go_ret
    exact ⟨rfl, Below.refl _ _⟩
  by_cases h4 : (s4.size : Int) > 1048576
  · go_wp2_with fail
    go_ret
    exact ⟨rfl, Below.refl _ _⟩
  by_cases h5 : (s5.size : Int) > 1048576
  · go_wp2_with fail
    go_ret
    exact ⟨rfl, Below.refl _ _⟩
  by_cases h6 : (s0.size : Int) + (s1.size : Int) + (s2.size : Int) + (s3.size : Int) + (s4.size : Int) + (s5.size : Int) > 1048576
  · go_wp2_with fail
    go_ret
    exact ⟨rfl, Below.refl _ _⟩
  go_wp2_with fail
  refine (read_any s0 s1 s2 s3 s4 s5 b6 b7 b8 b9 _ (by omega) (by omega) (by omega) (by omega) (by omega)).mono ?_
  rintro e w1 ⟨hb1, b, rfl, hR⟩
  cases b with
  | false =>
    go_wp2_with fail
    go_ret
    exact ⟨rfl, hb1⟩
  | true =>
  have hR1 := hR rfl
  have HT : Hid (∀ W : World, Calls Try.prog 11 #[.agg #[.string s0, .string s1, .string s2, .string s3, .string s4, .string s5, .bool b6, .bool b7, .bool b8, .bool b9]] W (TextPost (text (partsOf s0 s1 s2 s3 s4 s5 b6 b7 b8 b9)) W)) := fun W => text_any s0 s1 s2 s3 s4 s5 b6 b7 b8 b9 W (by omega) (by omega) (by omega) (by omega) (by omega) (by omega)
  have HB : Hid (∀ W : World, Calls Try.prog 10 #[.string ⟨(text (partsOf s0 s1 s2 s3 s4 s5 b6 b7 b8 b9)).toArray⟩] W (BackPost #[.string s0, .string s1, .string s2, .string s3, .string s4, .string s5, .bool b6, .bool b7, .bool b8, .bool b9] W)) := fun W => cut_back s0 s1 s2 s3 s4 s5 b6 b7 b8 b9 W (by omega) (by omega) (by omega) (by omega) (by omega) (by omega) hR1
  clear hR1
  generalize text (partsOf s0 s1 s2 s3 s4 s5 b6 b7 b8 b9) = l at *
  clear hR
  have r1 := World.rowIs_alloc w1 #[.string s0, .string s1, .string s2, .string s3, .string s4, .string s5, .bool b6, .bool b7, .bool b8, .bool b9] 24 (pF s0 s1 s2 s3 s4 s5 b6 b7 b8 b9) (fun i hi => by match i, hi with | 0, _ | 1, _ | 2, _ | 3, _ | 4, _ | 5, _ | 6, _ | 7, _ | 8, _ | 9, _ => rfl)
  have hbx : Below w.heap.size w (w1.alloc (.cells #[.string s0, .string s1, .string s2, .string s3, .string s4, .string s5, .bool b6, .bool b7, .bool b8, .bool b9] 24)) := hb1.alloc hb1.size _
  have hsx : w1.heap.size < (w1.alloc (.cells #[.string s0, .string s1, .string s2, .string s3, .string s4, .string s5, .bool b6, .bool b7, .bool b8, .bool b9] 24)).heap.size := by simp
  go_wp2_with fail
  generalize w1.alloc (.cells #[.string s0, .string s1, .string s2, .string s3, .string s4, .string s5, .bool b6, .bool b7, .bool b8, .bool b9] 24) = wx at *
  have c0 : wx.cell? ⟨w1.heap.size, 0, none⟩ = some (.string s0) := r1.cell (i := 0) (by simp)
  have c1 : wx.cell? ⟨w1.heap.size, 1, none⟩ = some (.string s1) := r1.cell (i := 1) (by simp)
  have c2 : wx.cell? ⟨w1.heap.size, 2, none⟩ = some (.string s2) := r1.cell (i := 2) (by simp)
  have c3 : wx.cell? ⟨w1.heap.size, 3, none⟩ = some (.string s3) := r1.cell (i := 3) (by simp)
  have c4 : wx.cell? ⟨w1.heap.size, 4, none⟩ = some (.string s4) := r1.cell (i := 4) (by simp)
  have c5 : wx.cell? ⟨w1.heap.size, 5, none⟩ = some (.string s5) := r1.cell (i := 5) (by simp)
  have c6 : wx.cell? ⟨w1.heap.size, 6, none⟩ = some (.bool b6) := r1.cell (i := 6) (by simp)
  have c7 : wx.cell? ⟨w1.heap.size, 7, none⟩ = some (.bool b7) := r1.cell (i := 7) (by simp)
  have c8 : wx.cell? ⟨w1.heap.size, 8, none⟩ = some (.bool b8) := r1.cell (i := 8) (by simp)
  have c9 : wx.cell? ⟨w1.heap.size, 9, none⟩ = some (.bool b9) := r1.cell (i := 9) (by simp)
  clear r1 h0 h1 h2 h3 h4 h5 h6
  go_region_held3 (fun w' => w'.cell? ⟨w1.heap.size, 0, none⟩ = some (.string s0) ∧ w'.cell? ⟨w1.heap.size, 1, none⟩ = some (.string s1) ∧ w'.cell? ⟨w1.heap.size, 2, none⟩ = some (.string s2) ∧ w'.cell? ⟨w1.heap.size, 3, none⟩ = some (.string s3) ∧ w'.cell? ⟨w1.heap.size, 4, none⟩ = some (.string s4) ∧ w'.cell? ⟨w1.heap.size, 5, none⟩ = some (.string s5) ∧ w'.cell? ⟨w1.heap.size, 6, none⟩ = some (.bool b6) ∧ w'.cell? ⟨w1.heap.size, 7, none⟩ = some (.bool b7) ∧ w'.cell? ⟨w1.heap.size, 8, none⟩ = some (.bool b8) ∧ w'.cell? ⟨w1.heap.size, 9, none⟩ = some (.bool b9))
    (first | go_keep | (exact ⟨(hb2.cell (p := ⟨w1.heap.size, 0, none⟩) hsx).trans c0, (hb2.cell (p := ⟨w1.heap.size, 1, none⟩) hsx).trans c1, (hb2.cell (p := ⟨w1.heap.size, 2, none⟩) hsx).trans c2, (hb2.cell (p := ⟨w1.heap.size, 3, none⟩) hsx).trans c3, (hb2.cell (p := ⟨w1.heap.size, 4, none⟩) hsx).trans c4, (hb2.cell (p := ⟨w1.heap.size, 5, none⟩) hsx).trans c5, (hb2.cell (p := ⟨w1.heap.size, 6, none⟩) hsx).trans c6, (hb2.cell (p := ⟨w1.heap.size, 7, none⟩) hsx).trans c7, (hb2.cell (p := ⟨w1.heap.size, 8, none⟩) hsx).trans c8, (hb2.cell (p := ⟨w1.heap.size, 9, none⟩) hsx).trans c9⟩) | (exact ⟨(hb3.cell (p := ⟨w1.heap.size, 0, none⟩) (Nat.lt_of_lt_of_le hsx hb2.size)).trans ((hb2.cell (p := ⟨w1.heap.size, 0, none⟩) hsx).trans c0), (hb3.cell (p := ⟨w1.heap.size, 1, none⟩) (Nat.lt_of_lt_of_le hsx hb2.size)).trans ((hb2.cell (p := ⟨w1.heap.size, 1, none⟩) hsx).trans c1), (hb3.cell (p := ⟨w1.heap.size, 2, none⟩) (Nat.lt_of_lt_of_le hsx hb2.size)).trans ((hb2.cell (p := ⟨w1.heap.size, 2, none⟩) hsx).trans c2), (hb3.cell (p := ⟨w1.heap.size, 3, none⟩) (Nat.lt_of_lt_of_le hsx hb2.size)).trans ((hb2.cell (p := ⟨w1.heap.size, 3, none⟩) hsx).trans c3), (hb3.cell (p := ⟨w1.heap.size, 4, none⟩) (Nat.lt_of_lt_of_le hsx hb2.size)).trans ((hb2.cell (p := ⟨w1.heap.size, 4, none⟩) hsx).trans c4), (hb3.cell (p := ⟨w1.heap.size, 5, none⟩) (Nat.lt_of_lt_of_le hsx hb2.size)).trans ((hb2.cell (p := ⟨w1.heap.size, 5, none⟩) hsx).trans c5), (hb3.cell (p := ⟨w1.heap.size, 6, none⟩) (Nat.lt_of_lt_of_le hsx hb2.size)).trans ((hb2.cell (p := ⟨w1.heap.size, 6, none⟩) hsx).trans c6), (hb3.cell (p := ⟨w1.heap.size, 7, none⟩) (Nat.lt_of_lt_of_le hsx hb2.size)).trans ((hb2.cell (p := ⟨w1.heap.size, 7, none⟩) hsx).trans c7), (hb3.cell (p := ⟨w1.heap.size, 8, none⟩) (Nat.lt_of_lt_of_le hsx hb2.size)).trans ((hb2.cell (p := ⟨w1.heap.size, 8, none⟩) hsx).trans c8), (hb3.cell (p := ⟨w1.heap.size, 9, none⟩) (Nat.lt_of_lt_of_le hsx hb2.size)).trans ((hb2.cell (p := ⟨w1.heap.size, 9, none⟩) hsx).trans c9)⟩))
    (first | (go_at_call 11; refine (HT.out _).mono ?_; rintro e w2 ⟨rfl, hb2⟩) | (go_at_call 10; refine (HB.out _).mono ?_; rintro e w3 ⟨rfl, hb3⟩))
  all_goals go_wp2_with fail
  all_goals go_ret
  all_goals exact ⟨rfl, hbx.drew.trans ((hb2.mono (by exact Nat.le_trans hb1.size (Nat.le_of_lt hsx))).trans (hb3.mono (Nat.le_trans hb1.size (Nat.le_of_lt (Nat.lt_of_lt_of_le hsx hb2.size)))))⟩
end Go.Proofs.Qxb6600295a
