/-
  The seat's own text: how a tgtBuilder lies in memory; nextLine, nextComputed, fixed.
-/
import Derived.Test.Qxb6002364aProg
import Derived.WalkKit
import Derived.WalkSpells
import Derived.WalkLawsBesides
import Derived.Deep.LoopGhost
import Derived.Deep.OwnRows
import Derived.Deep.AppendLies
import Derived.Deep.QuietTactic
import Derived.BigQuiet
import Derived.Deep.Cut
namespace Go.Proofs.Qxb6002364a
open Go.RowKit Go.Deep

theorem Try.info3 : (Try.prog.info? 3).map (fun i => (i.zero, i.size, i.bytes)) = some (some (.int .i64 0), 1, 8) := by kernel_rfl
theorem Try.info23 : (Try.prog.info? 23).map (fun i => (i.zero, i.size, i.bytes)) = some (some (.slice none 0 0), 1, 24) := by kernel_rfl

/-- The nine cells of a tgtBuilder. -/
def bF (K Ln Cm : Value) (k l c : Int) (wv ov sv : Value) : Nat → Value
  | 0 => K
  | 1 => Ln
  | 2 => Cm
  | 3 => .int .i64 k
  | 4 => .int .i64 l
  | 5 => .int .i64 c
  | 6 => wv
  | 7 => ov
  | 8 => sv
  | _ => .slice none 0 0

section
variable {w : World} {s : Nat} {K Ln Cm wv ov sv : Value} {k l c : Int}
theorem b_set3 (h : w.rowIs s 32 9 (bF K Ln Cm k l c wv ov sv)) (x : Int) : (w.setCell ⟨s, 3, none⟩ (.int .i64 x)).rowIs s 32 9 (bF K Ln Cm x l c wv ov sv) :=
  (h.set 3 (.int .i64 x)).congr fun j _ => by match j with | 0 | 1 | 2 | 3 | 4 | 5 | 6 | 7 | 8 => rfl | k + 9 => simp [bF]
theorem b_set4 (h : w.rowIs s 32 9 (bF K Ln Cm k l c wv ov sv)) (x : Int) : (w.setCell ⟨s, 4, none⟩ (.int .i64 x)).rowIs s 32 9 (bF K Ln Cm k x c wv ov sv) :=
  (h.set 4 (.int .i64 x)).congr fun j _ => by match j with | 0 | 1 | 2 | 3 | 4 | 5 | 6 | 7 | 8 => rfl | k + 9 => simp [bF]
theorem b_set5 (h : w.rowIs s 32 9 (bF K Ln Cm k l c wv ov sv)) (x : Int) : (w.setCell ⟨s, 5, none⟩ (.int .i64 x)).rowIs s 32 9 (bF K Ln Cm k l x wv ov sv) :=
  (h.set 5 (.int .i64 x)).congr fun j _ => by match j with | 0 | 1 | 2 | 3 | 4 | 5 | 6 | 7 | 8 => rfl | k + 9 => simp [bF]
theorem b_set6 (h : w.rowIs s 32 9 (bF K Ln Cm k l c wv ov sv)) (x : Value) : (w.setCell ⟨s, 6, none⟩ x).rowIs s 32 9 (bF K Ln Cm k l c x ov sv) :=
  (h.set 6 x).congr fun j _ => by match j with | 0 | 1 | 2 | 3 | 4 | 5 | 6 | 7 | 8 => rfl | k + 9 => simp [bF]
theorem b_set7 (h : w.rowIs s 32 9 (bF K Ln Cm k l c wv ov sv)) (x : Value) : (w.setCell ⟨s, 7, none⟩ x).rowIs s 32 9 (bF K Ln Cm k l c wv x sv) :=
  (h.set 7 x).congr fun j _ => by match j with | 0 | 1 | 2 | 3 | 4 | 5 | 6 | 7 | 8 => rfl | k + 9 => simp [bF]
theorem b_set8 (h : w.rowIs s 32 9 (bF K Ln Cm k l c wv ov sv)) (x : Value) : (w.setCell ⟨s, 8, none⟩ x).rowIs s 32 9 (bF K Ln Cm k l c wv ov x) :=
  (h.set 8 x).congr fun j _ => by match j with | 0 | 1 | 2 | 3 | 4 | 5 | 6 | 7 | 8 => rfl | k + 9 => simp [bF]
end

/-- Nothing but block s has turned. -/
structure Only (s : Nat) (w w' : World) : Prop where
  os : w'.os = w.os
  tape : w'.tape = w.tape
  output : w'.output = w.output
  size : w'.heap.size = w.heap.size
  block : ∀ b, b ≠ s → w'.heap[b]? = w.heap[b]?
theorem Only.set (w : World) (q s i : Nat) (v : Value) : Only s w ((w.drewN q).setCell ⟨s, i, none⟩ v) :=
  ⟨rfl, rfl, rfl, by rw [nblk_setCell]; rfl, fun b hb => blk_setCell_other (w.drewN q) _ _ _ hb⟩
theorem Only.trans {s : Nat} {a b c : World} (h : Only s a b) (k : Only s b c) : Only s a c :=
  ⟨k.os.trans h.os, k.tape.trans h.tape, k.output.trans h.output, k.size.trans h.size, fun i hi => (k.block i hi).trans (h.block i hi)⟩
theorem Only.below {s : Nat} {w w' : World} (h : Only s w w') : Below s w w' :=
  ⟨h.os, h.tape, h.output, by rw [h.size]; exact Nat.le_refl _, fun k hk => h.block k (by omega)⟩

/-- An array in memory below block B, told by its elements. -/
def ArrAt (w : World) (B : Nat) (A : Option Addr) (n : Nat) (f : Nat → Value) : Prop := 0 < n → ∃ b o, A = some ⟨b, o, none⟩ ∧ b < B ∧ ∀ i, i < n → w.cell? ⟨b, o + i, none⟩ = some (f i)
theorem ArrAt.kept {w w' : World} {B : Nat} {A : Option Addr} {n : Nat} {f : Nat → Value} (h : ArrAt w B A n f) (hk : ∀ b, b < B → w'.heap[b]? = w.heap[b]?) : ArrAt w' B A n f := fun hn => by
  obtain ⟨b, o, h1, h2, h3⟩ := h hn
  exact ⟨b, o, h1, h2, fun i hi => (World.cell?_of_block (w := w) (a := ⟨b, o + i, none⟩) (hk b h2)).trans (h3 i hi)⟩

def lineAt (Lns : List Int) (l : Nat) : Int := Lns.getD l ((l : Int) + 1)
def compAt (Cs : List Bool) (c : Nat) : Bool := Cs.getD c false

def NextPost (s : Nat) (K Ln Cm wv ov sv : Value) (k l c : Int) (v : Value) (w : World) (e : Ending) (w' : World) : Prop :=
  e = .returned v ∧ w'.rowIs s 32 9 (bF K Ln Cm k l c wv ov sv) ∧ Only s w w'

set_option maxHeartbeats 400000 in
theorem line_in (s b o nl lc l : Nat) (K Cm wv ov sv : Value) (k c z : Int) (w : World) (hs : w.rowIs s 32 9 (bF K (.slice (some ⟨b, o, none⟩) nl lc) Cm k l c wv ov sv)) (hl : l < nl) (hb : l ≤ 1000000) (hz : w.cell? ⟨b, o + l, none⟩ = some (.int .i64 z)) :
    Calls Try.prog 19 #[.pointer (some ⟨s, 0, none⟩)] w (NextPost s K (.slice (some ⟨b, o, none⟩) nl lc) Cm wv ov sv k ((l : Int) + 1) c (.int .i64 z) w) := by
  have c4 : w.cell? ⟨s, 4, none⟩ = some (.int .i64 l) := hs.cell (i := 4) (by omega)
  have c1 : w.cell? ⟨s, 1, none⟩ = some (.slice (some ⟨b, o, none⟩) nl lc) := hs.cell (i := 1) (by omega)
  have f4 := hs.frozen 4
  have hl1 : (l : Int) < (nl : Int) := by omega
  have hl0 : (0 : Int) ≤ (l : Int) := by omega
  have H : Hid (∀ q, ((w.drewN q).setCell ⟨s, 4, none⟩ (.int .i64 ((l : Int) + 1))).rowIs s 32 9 (bF K (.slice (some ⟨b, o, none⟩) nl lc) Cm k ((l : Int) + 1) c wv ov sv)) := fun q => b_set4 (hs.of_block (w' := w.drewN q) rfl) _
  clear hs
  go_enter Try.func19, Try.ntmps19
  go_wp2_with fail
  go_quiet (fail)
  go_wp2_with fail
  go_quiet (fail)
  go_wp2_with fail
  go_ret
  exact ⟨rfl, H.out _, Only.set w _ s 4 _⟩

set_option maxHeartbeats 400000 in
theorem line_out (s nl lc l : Nat) (A : Option Addr) (K Cm wv ov sv : Value) (k c : Int) (w : World) (hs : w.rowIs s 32 9 (bF K (.slice A nl lc) Cm k l c wv ov sv)) (hl : ¬ l < nl) (hb : l ≤ 1000000) :
    Calls Try.prog 19 #[.pointer (some ⟨s, 0, none⟩)] w (NextPost s K (.slice A nl lc) Cm wv ov sv k ((l : Int) + 1) c (.int .i64 ((l : Int) + 1)) w) := by
  have c4 : w.cell? ⟨s, 4, none⟩ = some (.int .i64 l) := hs.cell (i := 4) (by omega)
  have c1 : w.cell? ⟨s, 1, none⟩ = some (.slice A nl lc) := hs.cell (i := 1) (by omega)
  have f4 := hs.frozen 4
  have hl1 : ¬ (l : Int) < (nl : Int) := by omega
  have H : Hid (∀ q, ((w.drewN q).setCell ⟨s, 4, none⟩ (.int .i64 ((l : Int) + 1))).rowIs s 32 9 (bF K (.slice A nl lc) Cm k ((l : Int) + 1) c wv ov sv)) := fun q => b_set4 (hs.of_block (w' := w.drewN q) rfl) _
  clear hs
  go_enter Try.func19, Try.ntmps19
  go_wp2_with fail
  go_quiet (fail)
  go_wp2_with fail
  go_ret
  exact ⟨rfl, H.out _, Only.set w _ s 4 _⟩

theorem line_any (s lc l : Nat) (A : Option Addr) (Lns : List Int) (B : Nat) (K Cm wv ov sv : Value) (k c : Int) (w : World) (hs : w.rowIs s 32 9 (bF K (.slice A Lns.length lc) Cm k l c wv ov sv)) (hA : ArrAt w B A Lns.length (fun i => .int .i64 (Lns.getD i 0))) (hb : l ≤ 1000000) :
    Calls Try.prog 19 #[.pointer (some ⟨s, 0, none⟩)] w (NextPost s K (.slice A Lns.length lc) Cm wv ov sv k ((l : Int) + 1) c (.int .i64 (lineAt Lns l)) w) := by
  by_cases hl : l < Lns.length
  · obtain ⟨b, o, rfl, _, hc⟩ := hA (by omega)
    have e : lineAt Lns l = Lns.getD l 0 := by simp [lineAt, hl]
    rw [e]
    exact line_in s b o Lns.length lc l K Cm wv ov sv k c _ w hs hl hb (hc l hl)
  · have e : lineAt Lns l = (l : Int) + 1 := by simp [lineAt, hl]
    rw [e]
    exact line_out s Lns.length lc l A K Cm wv ov sv k c w hs hl hb

set_option maxHeartbeats 400000 in
theorem comp_in (s b o nc cc c : Nat) (K Ln wv ov sv : Value) (k l : Int) (z : Bool) (w : World) (hs : w.rowIs s 32 9 (bF K Ln (.slice (some ⟨b, o, none⟩) nc cc) k l c wv ov sv)) (hl : c < nc) (hb : c ≤ 1000000) (hz : w.cell? ⟨b, o + c, none⟩ = some (.bool z)) :
    Calls Try.prog 27 #[.pointer (some ⟨s, 0, none⟩)] w (NextPost s K Ln (.slice (some ⟨b, o, none⟩) nc cc) wv ov sv k l ((c : Int) + 1) (.bool z) w) := by
  have c5 : w.cell? ⟨s, 5, none⟩ = some (.int .i64 c) := hs.cell (i := 5) (by omega)
  have c2 : w.cell? ⟨s, 2, none⟩ = some (.slice (some ⟨b, o, none⟩) nc cc) := hs.cell (i := 2) (by omega)
  have f5 := hs.frozen 5
  have hl1 : (c : Int) < (nc : Int) := by omega
  have hl0 : (0 : Int) ≤ (c : Int) := by omega
  have H : Hid (∀ q, ((w.drewN q).setCell ⟨s, 5, none⟩ (.int .i64 ((c : Int) + 1))).rowIs s 32 9 (bF K Ln (.slice (some ⟨b, o, none⟩) nc cc) k l ((c : Int) + 1) wv ov sv)) := fun q => b_set5 (hs.of_block (w' := w.drewN q) rfl) _
  clear hs
  go_enter Try.func27, Try.ntmps27
  go_wp2_with fail
  go_quiet (fail)
  go_wp2_with fail
  go_quiet (fail)
  go_wp2_with fail
  go_ret
  exact ⟨rfl, H.out _, Only.set w _ s 5 _⟩

set_option maxHeartbeats 400000 in
theorem comp_out (s nc cc c : Nat) (A : Option Addr) (K Ln wv ov sv : Value) (k l : Int) (w : World) (hs : w.rowIs s 32 9 (bF K Ln (.slice A nc cc) k l c wv ov sv)) (hl : ¬ c < nc) (hb : c ≤ 1000000) :
    Calls Try.prog 27 #[.pointer (some ⟨s, 0, none⟩)] w (NextPost s K Ln (.slice A nc cc) wv ov sv k l ((c : Int) + 1) (.bool false) w) := by
  have c5 : w.cell? ⟨s, 5, none⟩ = some (.int .i64 c) := hs.cell (i := 5) (by omega)
  have c2 : w.cell? ⟨s, 2, none⟩ = some (.slice A nc cc) := hs.cell (i := 2) (by omega)
  have f5 := hs.frozen 5
  have hl1 : ¬ (c : Int) < (nc : Int) := by omega
  have H : Hid (∀ q, ((w.drewN q).setCell ⟨s, 5, none⟩ (.int .i64 ((c : Int) + 1))).rowIs s 32 9 (bF K Ln (.slice A nc cc) k l ((c : Int) + 1) wv ov sv)) := fun q => b_set5 (hs.of_block (w' := w.drewN q) rfl) _
  clear hs
  go_enter Try.func27, Try.ntmps27
  go_wp2_with fail
  go_quiet (fail)
  go_wp2_with fail
  go_ret
  exact ⟨rfl, H.out _, Only.set w _ s 5 _⟩

theorem comp_any (s cc c : Nat) (A : Option Addr) (Cs : List Bool) (B : Nat) (K Ln wv ov sv : Value) (k l : Int) (w : World) (hs : w.rowIs s 32 9 (bF K Ln (.slice A Cs.length cc) k l c wv ov sv)) (hA : ArrAt w B A Cs.length (fun i => .bool (Cs.getD i false))) (hb : c ≤ 1000000) :
    Calls Try.prog 27 #[.pointer (some ⟨s, 0, none⟩)] w (NextPost s K Ln (.slice A Cs.length cc) wv ov sv k l ((c : Int) + 1) (.bool (compAt Cs c)) w) := by
  by_cases hl : c < Cs.length
  · obtain ⟨b, o, rfl, _, hc⟩ := hA (by omega)
    exact comp_in s b o Cs.length cc c K Ln wv ov sv k l _ w hs hl hb (hc c hl)
  · have e : compAt Cs c = false := by simp [compAt, hl]
    rw [e]
    exact comp_out s Cs.length cc c A K Ln wv ov sv k l w hs hl hb

end Go.Proofs.Qxb6002364a
