/-
  The seat's own text: the walks of indexByte, hasAnyOf, schemeEnd.
-/
import Derived.Test.Qxb6600295aShelf
import Derived.Test.Qxb6600295aPlain
import Derived.WalkKit
import Derived.WalkSpells
import Derived.WalkLawsBesides
import Derived.Deep.LoopGhost
import Derived.Deep.OwnRows
import Derived.Deep.AppendLies
import Derived.Deep.QuietTactic
import Derived.BigQuiet
import Derived.Deep.Cut
namespace Go.Proofs.Qxb6600295a
open Go.RowKit Go.Deep Plain

def bytesOf (s : ByteArray) : List UInt8 := s.data.toList
theorem bytes_len (s : ByteArray) : (bytesOf s).length = s.size := by rw [Lib.size_eq]; rfl
theorem bytes_drop (s : ByteArray) (k : Nat) (h : k < s.size) : (bytesOf s).drop k = s[k] :: (bytesOf s).drop (k + 1) := by
  have hl : k < (bytesOf s).length := by rw [bytes_len]; exact h
  rw [List.drop_eq_getElem_cons hl]
  rfl
theorem bytes_over (s : ByteArray) (k : Nat) (h : ¬ k < s.size) : (bytesOf s).drop k = [] := List.drop_eq_nil_of_le (by rw [bytes_len]; omega)
theorem take_next (s : ByteArray) (k : Nat) (h : k < s.size) : (bytesOf s).take (k + 1) = (bytesOf s).take k ++ [s[k]] := by
  have hl : k < (bytesOf s).length := by rw [bytes_len]; exact h
  rw [List.take_succ_eq_append_getElem hl]
  rfl
theorem u8_eq {a b : UInt8} (h : a = b) : (((a.toNat : Nat) : Int) == ((b.toNat : Nat) : Int)) = true := by rw [h]; simp
theorem u8_ne {a b : UInt8} (h : a ≠ b) : (((a.toNat : Nat) : Int) == ((b.toNat : Nat) : Int)) = false :=
  beq_eq_false_iff_ne.2 fun e => h (UInt8.toNat_inj.1 (by omega))

def IxPost (s : ByteArray) (c : UInt8) (w : World) (e : Ending) (w' : World) : Prop :=
  w' = w ∧ ((e = .returned (.int .i64 (-1)) ∧ ix c (bytesOf s) = none) ∨ ∃ k : Nat, e = .returned (.int .i64 k) ∧ ix c (bytesOf s) = some k)

set_option maxHeartbeats 400000 in
theorem index_any (s : ByteArray) (c : UInt8) (w : World) (hs : s.size ≤ 4611686018427387904) :
    Calls Try.prog 22 #[.string s, .int .u8 ((c.toNat : Nat) : Int)] w (IxPost s c w) := by
  go_enter Try.func22, Try.ntmps22
  go_wp2
  go_loopg [5] s.size (fun m i wr => ∃ k : Nat, k ≤ s.size ∧ m = s.size - k ∧ i = .int .i64 k ∧ wr = w ∧ Hid (ix c (bytesOf s) = (ix c ((bytesOf s).drop k)).map (· + k)))
  case atStart => exact ⟨0, Nat.zero_le _, rfl, rfl, rfl, by simp [Hid]⟩
  case round =>
    obtain ⟨k, hk, rfl, rfl, rfl, H⟩ := hrel
    by_cases hlt : k < s.size
    · by_cases hc : s[k] = c
      · have e := u8_eq hc
        have HP : IxPost s c wr (.returned (.int .i64 k)) wr := ⟨rfl, .inr ⟨k, rfl, by rw [H.out, bytes_drop s k hlt]; simp [ix, hc]⟩⟩
        clear hc H
        go_wp2
        go_ret
        exact HP
      · have e := u8_ne hc
        have H' : Hid (ix c (bytesOf s) = (ix c ((bytesOf s).drop (k + 1))).map (· + (k + 1))) := by
          show _ = _
          rw [H.out, bytes_drop s k hlt]
          rw [ix, if_neg hc, Option.map_map]
          refine congrArg (fun f => Option.map f _) (funext fun x => ?_)
          show x + 1 + k = x + (k + 1)
          omega
        clear hc H
        go_wp2
        go_roundg (s.size - (k + 1))
        case measure => omega
        case rel => exact ⟨k + 1, by omega, rfl, by go_num, rfl, H'⟩
    · have HP : IxPost s c wr (.returned (.int .i64 (-1))) wr := ⟨rfl, .inl ⟨rfl, by rw [H.out, bytes_over s k hlt]; rfl⟩⟩
      clear H
      go_wp2
      go_ret
      exact HP

def AnyPost (s t : ByteArray) (w : World) (e : Ending) (w' : World) : Prop :=
  w'.heap = w.heap ∧ Below w.heap.size w w' ∧ ∃ b : Bool, e = .returned (.bool b) ∧ (b = false → free (bytesOf s) (bytesOf t))

theorem free_drop {s t : List UInt8} (h : free s t) (x : UInt8) (hx : x ∉ t) : free (x :: s) t := fun y hy => by
  rcases List.mem_cons.1 hy with rfl | hy
  · exact hx
  · exact h y hy

set_option maxHeartbeats 800000 in
theorem any_of (s t : ByteArray) (w : World) (hs : s.size ≤ 4611686018427387904) (ht : t.size ≤ 4611686018427387904) :
    Calls Try.prog 20 #[.string s, .string t] w (AnyPost s t w) := by
  go_enter Try.func20, Try.ntmps20
  go_wp2
  go_loopg [5] s.size (fun m i wr => ∃ k : Nat, k ≤ s.size ∧ m = s.size - k ∧ i = .int .i64 k ∧ wr.heap = w.heap ∧ Below w.heap.size w wr ∧ Hid (free ((bytesOf s).take k) (bytesOf t)))
  case atStart => exact ⟨0, Nat.zero_le _, rfl, rfl, rfl, Below.refl _ _, by intro x hx; simp at hx⟩
  case round =>
    obtain ⟨k, hk, rfl, rfl, hw, hb, H⟩ := hrel
    by_cases hlt : k < s.size
    · go_wp2
      go_loopg [6] t.size (fun m i wr => ∃ j : Nat, j ≤ t.size ∧ m = t.size - j ∧ i = .int .i64 j ∧ wr.heap = w.heap ∧ Below w.heap.size w wr ∧ Hid (s[k] ∉ (bytesOf t).take j))
      case atStart => exact ⟨0, Nat.zero_le _, rfl, rfl, hw, hb, by simp [Hid]⟩
      case round =>
        clear hw hb
        obtain ⟨j, hj, rfl, rfl, hw, hb, HJ⟩ := hrel
        by_cases hjl : j < t.size
        · have hk0 : (0 : Int) ≤ (k : Int) := by omega
          have hj0 : (0 : Int) ≤ (j : Int) := by omega
          have HP : ∀ q, AnyPost s t w (.returned (.bool true)) (wr.drewN q) := fun q => ⟨hw, ⟨hb.os, hb.tape, hb.output, hb.size, hb.block⟩, true, rfl, fun h => by cases h⟩
          by_cases hc : s[k] = t[j]
          · have e := u8_eq hc
            clear hc H HJ
            go_wp2_with fail
            go_quiet (fail)
            go_wp2_with fail
            go_ret
            exact HP _
          · have e := u8_ne hc
            have H' : Hid (s[k] ∉ (bytesOf t).take (j + 1)) := by
              show _ ∉ _
              rw [take_next t j hjl, List.mem_append, not_or]
              exact ⟨HJ.out, by simp [hc]⟩
            clear hc HJ HP
            go_wp2_with fail
            go_quiet (fail)
            go_wp2_with fail
            go_roundg (t.size - (j + 1))
            case measure => omega
            case rel => exact ⟨j + 1, by omega, rfl, by go_num, hw, ⟨hb.os, hb.tape, hb.output, hb.size, hb.block⟩, H'⟩
        · have H' : Hid (free ((bytesOf s).take (k + 1)) (bytesOf t)) := by
            have hj' := HJ.out
            rw [List.take_of_length_le (by rw [bytes_len]; omega)] at hj'
            show free _ _
            rw [take_next s k hlt]
            intro x hx
            rcases List.mem_append.1 hx with hx | hx
            · exact H.out x hx
            · simp at hx; subst hx; exact hj'
          clear H HJ
          go_wp2_with fail
          go_roundg (s.size - (k + 1))
          case measure => omega
          case rel => exact ⟨k + 1, by omega, rfl, by go_num, hw, hb, H'⟩
    · have HP : AnyPost s t w (.returned (.bool false)) wr := ⟨hw, hb, false, rfl, fun _ => by
        have := H.out
        rwa [List.take_of_length_le (by rw [bytes_len]; omega)] at this⟩
      clear H
      go_wp2_with fail
      go_ret
      exact HP

/-- schemeEnd answers se. -/
def SePost (s : ByteArray) (w : World) (e : Ending) (w' : World) : Prop :=
  w' = w ∧ ((e = .returned (.tuple #[.int .i64 0, .bool false]) ∧ se (bytesOf s) = none) ∨ ∃ k : Nat, e = .returned (.tuple #[.int .i64 k, .bool true]) ∧ se (bytesOf s) = some k)

set_option maxHeartbeats 800000 in
theorem scheme_any (s : ByteArray) (w : World) (hs : s.size ≤ 4611686018427387904) :
    Calls Try.prog 21 #[.string s] w (SePost s w) := by
  go_enter Try.func21, Try.ntmps21
  go_wp2
  go_loopg [4] s.size (fun m i wr => ∃ k : Nat, k ≤ s.size ∧ m = s.size - k ∧ i = .int .i64 k ∧ wr = w ∧ Hid (se (bytesOf s) = (se ((bytesOf s).drop k)).map (· + k)))
  case atStart => exact ⟨0, Nat.zero_le _, rfl, rfl, rfl, by simp [Hid]⟩
  case round =>
    obtain ⟨k, hk, rfl, rfl, rfl, H⟩ := hrel
    by_cases hlt : k < s.size
    · by_cases hc : s[k] = 47
      · have e : (((s[k].toNat : Nat) : Int) == 47) = true := u8_eq (b := 47) hc
        have HP : SePost s wr (.returned (.tuple #[.int .i64 0, .bool false])) wr := ⟨rfl, .inl ⟨rfl, by rw [H.out, bytes_drop s k hlt]; simp [se, hc]⟩⟩
        clear hc H
        go_wp2_with fail
        go_ret2
        exact HP
      · have e : (((s[k].toNat : Nat) : Int) == 47) = false := u8_ne (b := 47) hc
        by_cases hd : s[k] = 58
        · have e2 : (((s[k].toNat : Nat) : Int) == 58) = true := u8_eq (b := 58) hd
          have hse : se (bytesOf s) = (if isSS ((bytesOf s).drop (k + 1)) = true then some k else none) := by
            rw [H.out, bytes_drop s k hlt, se, if_neg hc, if_pos hd]
            cases isSS ((bytesOf s).drop (k + 1)) <;> simp
          have HN : Hid (isSS ((bytesOf s).drop (k + 1)) = false → SePost s wr (.returned (.tuple #[.int .i64 0, .bool false])) wr) := fun h => ⟨rfl, .inl ⟨rfl, by rw [hse, h]; rfl⟩⟩
          have HY : Hid (isSS ((bytesOf s).drop (k + 1)) = true → SePost s wr (.returned (.tuple #[.int .i64 k, .bool true])) wr) := fun h => ⟨rfl, .inr ⟨k, rfl, by rw [hse, h]; rfl⟩⟩
          clear H hse hc hd
          by_cases h2 : k + 2 < s.size
          · have hss : isSS ((bytesOf s).drop (k + 1)) = (s[k + 1] == 47 && s[k + 2] == 47) := by
              rw [bytes_drop s (k + 1) (by omega), bytes_drop s (k + 2) h2]; rfl
            have g2 : (k : Int) + 2 < (s.size : Int) := by omega
            have n1 : ((k : Int) + 1).toNat = k + 1 := by omega
            have n2 : ((k : Int) + 2).toNat = k + 2 := by omega
            by_cases ha : s[k + 1] = 47
            · have ea : (((s[k + 1].toNat : Nat) : Int) == 47) = true := u8_eq (b := 47) ha
              by_cases hb : s[k + 2] = 47
              · have eb : (((s[k + 2].toNat : Nat) : Int) == 47) = true := u8_eq (b := 47) hb
                have HP := HY.out (by rw [hss]; simp [ha, hb])
                clear ha hb hss HN HY
                go_wp2_with fail
                go_ret2
                exact HP
              · have eb : (((s[k + 2].toNat : Nat) : Int) == 47) = false := u8_ne (b := 47) hb
                have HP := HN.out (by rw [hss]; simp [hb])
                clear ha hb hss HN HY
                go_wp2_with fail
                go_ret2
                exact HP
            · have ea : (((s[k + 1].toNat : Nat) : Int) == 47) = false := u8_ne (b := 47) ha
              have HP := HN.out (by rw [hss]; simp [ha])
              clear ha hss HN HY
              go_wp2_with fail
              go_ret2
              exact HP
          · have g2 : ¬ (k : Int) + 2 < (s.size : Int) := by omega
            have hss : isSS ((bytesOf s).drop (k + 1)) = false := by
              by_cases h3 : k + 1 < s.size
              · rw [bytes_drop s (k + 1) h3, bytes_over s (k + 2) h2]; rfl
              · rw [bytes_over s (k + 1) h3]; rfl
            have HP := HN.out hss
            clear hss HN HY
            go_wp2_with fail
            go_ret2
            exact HP
        · have e2 : (((s[k].toNat : Nat) : Int) == 58) = false := u8_ne (b := 58) hd
          have H' : Hid (se (bytesOf s) = (se ((bytesOf s).drop (k + 1))).map (· + (k + 1))) := by
            show _ = _
            rw [H.out, bytes_drop s k hlt]
            rw [se, if_neg hc, if_neg hd, Option.map_map]
            refine congrArg (fun f => Option.map f _) (funext fun x => ?_)
            show x + 1 + k = x + (k + 1)
            omega
          clear hc hd H
          go_wp2_with fail
          go_roundg (s.size - (k + 1))
          case measure => omega
          case rel => exact ⟨k + 1, by omega, rfl, by go_num, rfl, H'⟩
    · have HP : SePost s wr (.returned (.tuple #[.int .i64 0, .bool false])) wr := ⟨rfl, .inl ⟨rfl, by rw [H.out, bytes_over s k hlt]; rfl⟩⟩
      clear H
      go_wp2_with fail
      go_ret2
      exact HP
end Go.Proofs.Qxb6600295a
