/-
  The seat's own text: the report in memory, the binary search in it, and the two exported shims.
-/
import Derived.Test.Qxb6600076aRep
namespace Go.Proofs.Qxb6600076a
open Go.RowKit Go.Deep Go.Maps
set_option linter.unusedSimpArgs false

theorem ent_len (e : Int × Pr) : (ent e).length = 7 := rfl
theorem flat_at : ∀ (es : List (Int × Pr)) (i c : Nat) (hi : i < es.length) (_ : c < 7), (flat es)[i * 7 + c]? = (ent es[i])[c]? := by
  intro es
  induction es with
  | nil => intro i c hi; exact absurd hi (Nat.not_lt_zero _)
  | cons e es ih =>
    intro i c hi hc
    show (ent e ++ flat es)[i * 7 + c]? = _
    cases i with
    | zero =>
      rw [List.getElem?_append_left (by rw [ent_len]; omega)]
      simp
    | succ i =>
      rw [List.getElem?_append_right (by rw [ent_len]; omega), ent_len, show (i + 1) * 7 + c - 7 = i * 7 + c by omega, ih i c (by simpa using hi) hc]
      simp

/-- The report as it lies in memory below block B. -/
def GotAt (w : World) (B : Nat) (A : Option Addr) (es : List (Int × Pr)) : Prop := 0 < es.length → ∃ g, A = some ⟨g, 0, none⟩ ∧ g < B ∧ ∀ (i : Nat) (hi : i < es.length) (c : Nat), c < 7 → w.cell? ⟨g, i * 7 + c, none⟩ = (ent es[i])[c]?
theorem GotAt.kept {w w' : World} {B : Nat} {A : Option Addr} {es : List (Int × Pr)} (h : GotAt w B A es) (hb : Below B w w') : GotAt w' B A es := fun hn => by
  obtain ⟨g, h1, h2, h3⟩ := h hn
  exact ⟨g, h1, h2, fun i hi c hc => (hb.cell (p := ⟨g, i * 7 + c, none⟩) h2).trans (h3 i hi c hc)⟩
theorem got_of {w : World} {base : Nat} {v : Value} {es : List (Int × Pr)} (h : w.ownsRow base 51 7 v es.length (flat es)) : ∃ A cap, v = .slice A es.length cap ∧ GotAt w w.heap.size A es := by
  rcases h.2 with ⟨rfl, h0⟩ | ⟨g, cap, cur, rfl, hbase, hb, h1, h2, h3, h4⟩
  · exact ⟨none, 0, by rw [h0], fun h => by omega⟩
  · refine ⟨_, cap, rfl, fun _ => ⟨g, rfl, (Array.getElem?_eq_some_iff.1 hb).1, fun i hi c hc => ?_⟩⟩
    rw [h.cellAt (i * 7 + c) (by omega), flat_at es i c hi hc]

def FindPost (w : World) (e : Ending) (w' : World) : Prop := e = .returned (.bool true) ∧ w' = w

set_option maxHeartbeats 1600000 in
theorem find_any (A : Option Addr) (cap B : Nat) (es : List (Int × Pr)) (x : Int) (w : World) (hG : GotAt w B A es) (hup : (es.map (·.1)).Pairwise (· < ·)) (hx : x ∈ es.map (·.1)) (hn : es.length ≤ 65536) :
    Calls Try.prog 15 #[.slice A es.length cap, .int .u64 x] w (FindPost w) := by
  obtain ⟨p, hp, hpx⟩ := List.getElem_of_mem hx
  simp only [List.length_map] at hp
  obtain ⟨g, ea, hg, hc⟩ := hG (by omega)
  cases ea
  obtain ⟨K, hK⟩ : ∃ K : Nat → Int, ∀ i (hi : i < es.length), (es[i]).1 = K i := ⟨fun i => (es.map (·.1)).getD i 0, fun i hi => by simp [List.getD, List.getElem?_eq_getElem hi]⟩
  have hmono : ∀ i j, i < es.length → j < es.length → i < j → K i < K j := fun i j hi hj hij => by
    have := List.pairwise_iff_getElem.1 hup i j (by simpa using hi) (by simpa using hj) hij
    simp only [List.getElem_map] at this
    rwa [hK i hi, hK j hj] at this
  have hpx' : K p = x := by rw [← hK p hp]; simpa using hpx
  have hcell : ∀ i, i < es.length → w.cell? ⟨g, i * 7, none⟩ = some (.int .u64 (K i)) := fun i hi => by rw [← hK i hi]; exact hc i hi 0 (by omega)
  clear hG hc hx hpx hup hK
  generalize es.length = N at *
  go_enter Try.func15, Try.ntmps15
  go_wp2
  go_loopg [5, 6] N (fun m v5 v6 wr => ∃ lo hi : Nat, v5 = .int .i64 lo ∧ v6 = .int .i64 hi ∧ lo ≤ p ∧ p ≤ hi ∧ hi ≤ N ∧ m = hi - lo ∧ wr = w)
  case atStart => exact ⟨0, N, rfl, rfl, Nat.zero_le _, by omega, Nat.le_refl _, rfl, rfl⟩
  case round =>
    obtain ⟨lo, hi, rfl, rfl, hlp, hph, hhn, rfl, rfl⟩ := hrel
    by_cases hlt : lo < hi
    · obtain ⟨mid, hmid⟩ : ∃ mid : Nat, mid = lo + (hi - lo) / 2 := ⟨_, rfl⟩
      have h1 : (lo : Int) + ((hi : Int) - (lo : Int)) / 2 = (mid : Int) := by omega
      have h2 : mid < hi := by omega
      have h3 : lo ≤ mid := by omega
      have hcm := hcell mid (by omega)
      have hle : K mid < x ↔ mid < p := by
        constructor
        · intro h
          by_cases hm : mid < p
          · exact hm
          · by_cases he : mid = p
            · subst he; omega
            · have := hmono p mid (by omega) (by omega) (by omega); omega
        · intro h
          have := hmono mid p (by omega) (by omega) h
          omega
      clear hcell hmono hpx' hmid
      generalize K mid = k at *
      by_cases hk : k < x
      · have hm := hle.1 hk
        clear hle
        go_wp2_with fail
        go_roundg (hi - (mid + 1))
        case measure => omega
        case rel => exact ⟨mid + 1, hi, by go_num, rfl, by omega, hph, hhn, rfl, rfl⟩
      · have hm : ¬ mid < p := fun h => hk (hle.2 h)
        clear hle
        go_wp2_with fail
        go_roundg (mid - lo)
        case measure => omega
        case rel => exact ⟨lo, mid, rfl, rfl, hlp, by omega, by omega, rfl, rfl⟩
    · have e1 : lo = p := by omega
      subst e1
      have hcm := hcell lo hp
      rw [hpx'] at hcm
      clear hcell hmono hpx'
      have hlz : (lo : Int) < (N : Int) := by omega
      go_wp2_with fail
      go_ret
      exact ⟨rfl, rfl⟩

def NewPost (B : Nat) (w : World) (e : Ending) (w' : World) : Prop :=
  e = .returned (.pointer (some ⟨w.heap.size, 0, none⟩)) ∧ w'.cell? ⟨w.heap.size, 3, none⟩ = some (.map (some B)) ∧ Below w.heap.size w w'
theorem new_any (i : Int) (B : Nat) (w : World) : Calls Try.prog 13 #[.int .u32 i, .map (some B)] w (NewPost B w) := by
  have r := World.rowIs_alloc w #[.int .u32 i, .int .u64 0, .int .u32 0, .map (some B), .map none, .int .u64 0] 72 (fun j => match j with | 0 => .int .u32 i | 1 => .int .u64 0 | 2 => .int .u32 0 | 3 => .map (some B) | 4 => .map none | _ => .int .u64 0) (fun i hi => by match i, hi with | 0, _ | 1, _ | 2, _ | 3, _ | 4, _ | 5, _ => rfl)
  have H : NewPost B w (.returned (.pointer (some ⟨w.heap.size, 0, none⟩))) (w.alloc (.cells #[.int .u32 i, .int .u64 0, .int .u32 0, .map (some B), .map none, .int .u64 0] 72)) := ⟨rfl, r.cell (i := 3) (by simp), (Below.refl _ _).alloc (Nat.le_refl _) _⟩
  go_enter Try.func13, Try.ntmps13
  go_wp2
  go_ret
  exact H
theorem shim_any (ab B n : Nat) (D : DataW Unit) (f : Int) (w : World) (hc : w.cell? ⟨ab, 3, none⟩ = some (.map (some B))) (hM : MapAt w B n D) (hn : n ≤ 65536) :
    Calls Try.prog 14 #[.pointer (some ⟨ab, 0, none⟩), .int .u64 f] w (RepPost D f w) := by
  have h := report_any ab B n D f w hc hM hn
  clear hc hM hn
  go_enter Try.func14, Try.ntmps14
  go_wp2_with (go_at_call 30; refine h.mono ?_; rintro e w' ⟨v, es, rfl, HR⟩)
  go_ret
  exact ⟨v, es, rfl, HR⟩
end Go.Proofs.Qxb6600076a
