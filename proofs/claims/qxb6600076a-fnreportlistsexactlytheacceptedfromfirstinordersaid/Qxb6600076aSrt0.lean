/-
  The seat's own text: cmp.isNaN and cmp.Less at Slot (a worked walk of the library's text over a toy, turned to this program at []Slot).
-/
import Derived.Test.Qxb6600076aProg
import Derived.Lib.Walk
import Derived.Sort.Row
import Derived.Sort.WalkA
namespace Go.Proofs.Qxb6600076a
open Go.RowKit Go.Sort

abbrev encU : Int → Value := fun x => Value.int .u64 x

set_option maxHeartbeats 1000000 in
theorem Sl.cmp_isNaN_int (x : Int) (w : World) : Calls Try.prog 57 #[.int .u64 x] w fun e w' => e = .returned (.bool false) ∧ w' = w := by
  go_enter Try.func57, Try.ntmps57
  go_wp2
  go_ret
  exact ⟨by simp, rfl⟩

set_option maxHeartbeats 1000000 in
theorem Sl.cmp_Less_int (x y : Int) (w : World) : Calls Try.prog 47 #[.int .u64 x, .int .u64 y] w fun e w' => e = .returned (.bool (Sort.ltInt x y)) ∧ w' = w := by
  go_enter Try.func47, Try.ntmps47
  go_wp2_with (go_at_call 57; refine (Sl.cmp_isNaN_int _ _).mono ?_; rintro e w' ⟨rfl, rfl⟩)
  go_ret
  exact ⟨rfl, rfl⟩
end Go.Proofs.Qxb6600076a
