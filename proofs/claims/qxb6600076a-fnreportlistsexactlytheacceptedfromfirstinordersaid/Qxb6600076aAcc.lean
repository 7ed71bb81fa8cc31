/-
  The seat's own text: the walk of zzAccepted: the map of proposals is built.
-/
import Derived.Test.Qxb6600076aBase
namespace Go.Proofs.Qxb6600076a
open Go.RowKit Go.Deep Go.Maps
set_option linter.unusedSimpArgs false

def pF (r a b c : Int) (s : ByteArray) (x : Bool) : Nat → Value
  | 0 => .int .u64 r
  | 1 => .int .u32 a
  | 2 => .int .u32 b
  | 3 => .int .u64 c
  | 4 => .string s
  | _ => .bool x
def AccPost (zs : List Int) (w : World) (e : Ending) (w' : World) : Prop :=
  ∃ D, e = .returned (.map (some w.heap.size)) ∧ MapAt w' w.heap.size zs.length D ∧ (∀ x, HasK D x ↔ x ∈ zs) ∧ Below w.heap.size w w'

theorem make_hint (n : Int) (w : World) : (Instr.makeMap 32 (some (.int .i64 n))).run Try.prog w = .ok (.map (some w.heap.size)) (w.alloc (.map #[] 0)) := by
  simp [Instr.makeMap, run_underlying Try.underlying32, asInt, asIntOf]

set_option maxHeartbeats 1600000 in
set_option maxRecDepth 100000 in
theorem acc_any (A0 A1 : Option Addr) (c0 c1 : Nat) (zs rs : List Int) (w : World) (h0 : ArrAt w w.heap.size A0 zs.length (fun i => .int .u64 (zs.getD i 0))) (h1 : ArrAt w w.heap.size A1 rs.length (fun i => .int .u64 (rs.getD i 0)))
    (hz : ∀ n ∈ zs, (Lit.int .u64 n).wf = true) (hn : zs.length ≤ 65536) (hm : rs.length ≤ 65536) :
    Calls Try.prog 12 #[.slice A0 zs.length c0, .slice A1 rs.length c1] w (AccPost zs w) := by
  have hmm := make_hint
  have hM0 : MapAt (w.alloc (.map #[] 0)) w.heap.size 0 (.map []) := World.ownsMap_made _ _ _ _
  have hb0 : Below w.heap.size w (w.alloc (.map #[] 0)) := (Below.refl _ _).alloc (Nat.le_refl _) _
  go_enter Try.func12, Try.ntmps12
  go_wp2
  clear hmm
  generalize w.alloc (.map #[] 0) = w0 at *
  go_loopg [6] zs.length (fun m i wr => ∃ (k : Nat) (D : DataW Unit), k ≤ zs.length ∧ m = zs.length - k ∧ i = .int .i64 k ∧ MapAt wr w.heap.size k D ∧ (∀ x, HasK D x ↔ x ∈ zs.take k) ∧ Below w.heap.size w wr)
  case atStart => exact ⟨0, .map [], Nat.zero_le _, rfl, rfl, hM0, fun x => by simp [HasK, Maps.has], hb0⟩
  case round =>
    obtain ⟨k, D, hk, rfl, rfl, hM, hH, hbel⟩ := hrel
    clear hM0 hb0
    by_cases hlt : k < zs.length
    · obtain ⟨b, o, ea, hb, hc⟩ := h0 (by omega)
      cases ea
      have hcz : wr.cell? ⟨b, o + k, none⟩ = some (.int .u64 (zs.getD k 0)) := (hbel.cell (p := ⟨b, o + k, none⟩) hb).trans (hc k hlt)
      have hwf := wf_at hz k
      have HS : Hid (∀ d, ∀ x, HasK (D.put (.int .u64 (zs.getD k 0)) d) x ↔ x ∈ zs.take (k + 1)) := fun d => has_step hlt hM.isMap hH d
      clear hH hc h0
      generalize zs.getD k 0 = z at *
      by_cases hr : k < rs.length
      · obtain ⟨b1, o1, ea, hb1, hc1⟩ := h1 (by omega)
        cases ea
        have hcr : wr.cell? ⟨b1, o1 + k, none⟩ = some (.int .u64 (rs.getD k 0)) := (hbel.cell (p := ⟨b1, o1 + k, none⟩) hb1).trans (hc1 k hr)
        clear hc1 h1
        generalize rs.getD k 0 = r at *
        have r1 := World.rowIs_alloc wr #[.int .u64 r, .int .u32 k, .int .u32 k, .int .u64 ((k : Int) + 1), .string ⟨#[]⟩, .bool false] 49 (pF r k k ((k : Int) + 1) ⟨#[]⟩ false) (fun i hi => by match i, hi with | 0, _ | 1, _ | 2, _ | 3, _ | 4, _ | 5, _ => rfl)
        have hcx : (wr.alloc (.cells #[.int .u64 r, .int .u32 k, .int .u32 k, .int .u64 ((k : Int) + 1), .string ⟨#[]⟩, .bool false] 49)).cell? ⟨b, o + k, none⟩ = some (.int .u64 z) := (((Below.refl wr.heap.size wr).alloc (Nat.le_refl _) _).cell (p := ⟨b, o + k, none⟩) (by exact Nat.lt_of_lt_of_le hb hbel.size)).trans hcz
        obtain ⟨w2, hrun, hM2, hg2⟩ := (World.ownsMap.drew (World.ownsMap.alloc hM (.cells #[.int .u64 r, .int .u32 k, .int .u32 k, .int .u64 ((k : Int) + 1), .string ⟨#[]⟩, .bool false] 49))).update law Try.underlying32 (by unfold maxLen; omega) (keyOf_int_mk Try.underlying40 hwf) (elemP_val ⟨r, k, k, (k : Int) + 1, ⟨#[]⟩, false⟩)
        have hb2 : Below w.heap.size w w2 := ((hbel.alloc hbel.size (.cells #[.int .u64 r, .int .u32 k, .int .u32 k, .int .u64 ((k : Int) + 1), .string ⟨#[]⟩, .bool false] 49)).drew).grown hg2 (by have := hbel.size; simp; omega) (fun j hj => by cases hj; exact Nat.le_refl _)
        have HM2 : Hid (MapAt w2 w.heap.size (k + 1) _) := hM2
        clear hM2 hg2 hM hbel
        unfold Pr.val at hrun
        simp only at hrun
        go_wp2_with fail
        generalize (wr.alloc (.cells #[.int .u64 r, .int .u32 k, .int .u32 k, .int .u64 ((k : Int) + 1), .string ⟨#[]⟩, .bool false] 49)) = wx at *
        have d0 : wx.cell? ⟨wr.heap.size, 0, none⟩ = some (.int .u64 r) := r1.cell (i := 0) (by simp)
        have d1 : wx.cell? ⟨wr.heap.size, 1, none⟩ = some (.int .u32 k) := r1.cell (i := 1) (by simp)
        have d2 : wx.cell? ⟨wr.heap.size, 2, none⟩ = some (.int .u32 k) := r1.cell (i := 2) (by simp)
        have d3 : wx.cell? ⟨wr.heap.size, 3, none⟩ = some (.int .u64 ((k : Int) + 1)) := r1.cell (i := 3) (by simp)
        have d4 : wx.cell? ⟨wr.heap.size, 4, none⟩ = some (.string ⟨#[]⟩) := r1.cell (i := 4) (by simp)
        have d5 : wx.cell? ⟨wr.heap.size, 5, none⟩ = some (.bool false) := r1.cell (i := 5) (by simp)
        clear r1
        go_region
        all_goals go_wp2_with fail
        go_roundg (zs.length - (k + 1))
        case measure => omega
        case rel => exact ⟨k + 1, _, by omega, rfl, by go_num, HM2.out, HS.out _, hb2⟩
      · have r1 := World.rowIs_alloc wr #[.int .u64 0, .int .u32 k, .int .u32 k, .int .u64 ((k : Int) + 1), .string ⟨#[]⟩, .bool false] 49 (pF 0 k k ((k : Int) + 1) ⟨#[]⟩ false) (fun i hi => by match i, hi with | 0, _ | 1, _ | 2, _ | 3, _ | 4, _ | 5, _ => rfl)
        have hcx : (wr.alloc (.cells #[.int .u64 0, .int .u32 k, .int .u32 k, .int .u64 ((k : Int) + 1), .string ⟨#[]⟩, .bool false] 49)).cell? ⟨b, o + k, none⟩ = some (.int .u64 z) := (((Below.refl wr.heap.size wr).alloc (Nat.le_refl _) _).cell (p := ⟨b, o + k, none⟩) (by exact Nat.lt_of_lt_of_le hb hbel.size)).trans hcz
        obtain ⟨w2, hrun, hM2, hg2⟩ := (World.ownsMap.drew (World.ownsMap.alloc hM (.cells #[.int .u64 0, .int .u32 k, .int .u32 k, .int .u64 ((k : Int) + 1), .string ⟨#[]⟩, .bool false] 49))).update law Try.underlying32 (by unfold maxLen; omega) (keyOf_int_mk Try.underlying40 hwf) (elemP_val ⟨0, k, k, (k : Int) + 1, ⟨#[]⟩, false⟩)
        have hb2 : Below w.heap.size w w2 := ((hbel.alloc hbel.size (.cells #[.int .u64 0, .int .u32 k, .int .u32 k, .int .u64 ((k : Int) + 1), .string ⟨#[]⟩, .bool false] 49)).drew).grown hg2 (by have := hbel.size; simp; omega) (fun j hj => by cases hj; exact Nat.le_refl _)
        have HM2 : Hid (MapAt w2 w.heap.size (k + 1) _) := hM2
        clear hM2 hg2 hM hbel
        unfold Pr.val at hrun
        simp only at hrun
        go_wp2_with fail
        generalize (wr.alloc (.cells #[.int .u64 0, .int .u32 k, .int .u32 k, .int .u64 ((k : Int) + 1), .string ⟨#[]⟩, .bool false] 49)) = wx at *
        have d0 : wx.cell? ⟨wr.heap.size, 0, none⟩ = some (.int .u64 0) := r1.cell (i := 0) (by simp)
        have d1 : wx.cell? ⟨wr.heap.size, 1, none⟩ = some (.int .u32 k) := r1.cell (i := 1) (by simp)
        have d2 : wx.cell? ⟨wr.heap.size, 2, none⟩ = some (.int .u32 k) := r1.cell (i := 2) (by simp)
        have d3 : wx.cell? ⟨wr.heap.size, 3, none⟩ = some (.int .u64 ((k : Int) + 1)) := r1.cell (i := 3) (by simp)
        have d4 : wx.cell? ⟨wr.heap.size, 4, none⟩ = some (.string ⟨#[]⟩) := r1.cell (i := 4) (by simp)
        have d5 : wx.cell? ⟨wr.heap.size, 5, none⟩ = some (.bool false) := r1.cell (i := 5) (by simp)
        clear r1
        go_region
        all_goals go_wp2_with fail
        go_roundg (zs.length - (k + 1))
        case measure => omega
        case rel => exact ⟨k + 1, _, by omega, rfl, by go_num, HM2.out, HS.out _, hb2⟩
    · have e : k = zs.length := by omega
      subst e
      rw [List.take_length] at hH
      have H : AccPost zs w (.returned (.map (some w.heap.size))) wr := ⟨D, rfl, hM, hH, hbel⟩
      clear hM hH hbel h0 h1
      go_wp2
      go_ret
      exact H
end Go.Proofs.Qxb6600076a
