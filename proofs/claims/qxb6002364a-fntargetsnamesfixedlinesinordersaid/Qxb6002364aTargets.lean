/-
  The seat's own text: the walk of Targets.
-/
import Derived.Test.Qxb6002364aRes
import Derived.Deep.RegionHeld3
import Derived.Deep.DrawnRows
import Derived.Deep.RegionWith
namespace Go.Proofs.Qxb6002364a
open Go.RowKit Go.Deep

theorem step_append_res {w : World} {ops : Array Oper} {o : Oper} {a : Act} {K : Act → World → Prop} {Q : Exit → Act → World → Prop} {E : Prop} (hgd : o.guard = none) (s x : Operand)
    (ho : o.op = .call { callee := .builtin .append, args := #[s, x], argTypes := #[23, 23] }) (B B' : Nat) (X Y : Value) (xs ys : List Int) (hs : a.eval s = X) (hx : a.eval x = Y) (hX : Res B w X xs) (hY : Res B' w Y ys) (hB : B ≤ w.heap.size) (hl : xs.length + ys.length ≤ 1000000)
    (h : ∀ v' w', Res B w' v' (xs ++ ys) → Below B w w' → K (a.put o.dst v') w') :
    if Region.wanted o (yielded ops a.tmps) = true then Oper.wp Try.prog o a w K Q else E := by
  have hw : Region.wanted o (yielded ops a.tmps) = true := by simp [Region.wanted, hgd]
  rw [if_pos hw]
  obtain ⟨v', w', hr, h1, h2⟩ := run_append_res B w o.type X Y xs ys hX B' hY hB hl
  unfold Oper.wp execOp
  simp only [ho, resolve, invoke, builtin, Sem.run_bind, Sem.run_pure, Result.andThen_ok, List.map_toArray, List.map_cons, List.map_nil, hs, hx, hr]
  exact h v' w' h1 h2

def NoTargets (v : Value) : Prop := v = .nilIface ∨ ∃ x, v = .iface 51 x ∨ v = .iface 60 x ∨ v = .iface 74 x ∨ v = .iface 76 x ∨ v = .iface 78 x
def Leaf (rows : List (Nat × List Int)) (v : Value) (ts : List Int) : Prop :=
  (NoTargets v ∧ ts = []) ∨ (∃ z, (v = .iface 58 (.agg #[.int .i64 z, .nilIface]) ∨ v = .iface 59 (.agg #[.int .i64 z, .nilIface])) ∧ ts = [z]) ∨
  (∃ z, (v = .iface 58 (.agg #[.int .i64 z, .iface 72 (.agg #[.int .i64 0])]) ∨ v = .iface 59 (.agg #[.int .i64 z, .iface 72 (.agg #[.int .i64 0])])) ∧ ts = []) ∨ ∃ g L t y, v = .iface 70 (.agg #[.iface t y, sl g L]) ∧ (g, L) ∈ rows ∧ ts = L
def IsStmt (rows : List (Nat × List Int)) : Nat → Value → List Int → Prop
  | 0, v, ts => Leaf rows v ts
  | n + 1, v, ts => Leaf rows v ts ∨ ∃ a b ta tb, v = .iface 64 (.agg #[.nilIface, a, b]) ∧ IsStmt rows n a ta ∧ IsStmt rows n b tb ∧ ts = ta ++ tb

def TPost (ts : List Int) (w : World) (e : Ending) (w' : World) : Prop := ∃ v, e = .returned v ∧ Res w.heap.size w' v ts ∧ Below w.heap.size w w'
theorem TPost.none (w w' : World) (h : Below w.heap.size w w') : TPost [] w (.returned (.slice none 0 0)) w' := ⟨_, rfl, .inl ⟨rfl, rfl⟩, h⟩

set_option maxHeartbeats 400000 in
theorem fixed_no (z : Int) (w : World) : Calls Try.prog 20 #[.agg #[.int .i64 z, .iface 72 (.agg #[.int .i64 0])]] w fun e w' => e = .returned (.slice none 0 0) ∧ w' = w.alloc (.cells #[.int .i64 z, .iface 72 (.agg #[.int .i64 0])] 55) := by
  go_enter Try.func20, Try.ntmps20
  go_wp2
  go_ret
  exact ⟨rfl, rfl⟩
set_option maxHeartbeats 400000 in
theorem fixed_yes (z : Int) (w : World) : Calls Try.prog 20 #[.agg #[.int .i64 z, .nilIface]] w fun e w' => e = .returned (.slice (some ⟨w.heap.size + 1, 0, none⟩) 1 1) ∧ w' = (w.alloc (.cells #[.int .i64 z, .nilIface] 55)).alloc (.cells #[.int .i64 z] 3) := by
  go_enter Try.func20, Try.ntmps20
  go_wp2
  go_ret
  exact ⟨rfl, rfl⟩

theorem res_one (B : Nat) (W : World) (z : Int) (n : Nat) (hn : W.heap.size = n) : Res B (W.alloc (.cells #[.int .i64 z] 3)) (.slice (some ⟨n, 0, none⟩) 1 1) [z] := by
  subst hn
  refine .inr ⟨_, 0, 1, rfl, Nat.le_refl _, by decide, by simp, fun i hi => ?_, .inl rfl⟩
  have hr : (W.alloc (.cells #[.int .i64 z] 3)).rowIs W.heap.size 3 1 (fun _ => .int .i64 z) := World.rowIs_alloc W _ 3 _ (fun i hi => by match i, hi with | 0, _ => rfl)
  match i, hi with
  | 0, _ => exact hr.cell (i := 0) (by omega)

/-! ### The type switch's tests -/
theorem ta_nil_58 (w : World) : (Instr.typeAssert .nilIface 34 58 true).run Try.prog w = .ok (.tuple #[.agg #[.int .i64 0, .nilIface], .bool false]) w := by kernel_rfl
theorem ta_51_58 (v : Value) (w : World) : (Instr.typeAssert (.iface 51 v) 34 58 true).run Try.prog w = .ok (.tuple #[.agg #[.int .i64 0, .nilIface], .bool false]) w := by kernel_rfl
theorem ta_60_58 (v : Value) (w : World) : (Instr.typeAssert (.iface 60 v) 34 58 true).run Try.prog w = .ok (.tuple #[.agg #[.int .i64 0, .nilIface], .bool false]) w := by kernel_rfl
theorem ta_74_58 (v : Value) (w : World) : (Instr.typeAssert (.iface 74 v) 34 58 true).run Try.prog w = .ok (.tuple #[.agg #[.int .i64 0, .nilIface], .bool false]) w := by kernel_rfl
theorem ta_76_58 (v : Value) (w : World) : (Instr.typeAssert (.iface 76 v) 34 58 true).run Try.prog w = .ok (.tuple #[.agg #[.int .i64 0, .nilIface], .bool false]) w := by kernel_rfl
theorem ta_78_58 (v : Value) (w : World) : (Instr.typeAssert (.iface 78 v) 34 58 true).run Try.prog w = .ok (.tuple #[.agg #[.int .i64 0, .nilIface], .bool false]) w := by kernel_rfl
theorem ta_58_58 (v : Value) (w : World) : (Instr.typeAssert (.iface 58 v) 34 58 true).run Try.prog w = .ok (.tuple #[v, .bool true]) w := by kernel_rfl
theorem ta_59_58 (v : Value) (w : World) : (Instr.typeAssert (.iface 59 v) 34 58 true).run Try.prog w = .ok (.tuple #[.agg #[.int .i64 0, .nilIface], .bool false]) w := by kernel_rfl
theorem ta_64_58 (v : Value) (w : World) : (Instr.typeAssert (.iface 64 v) 34 58 true).run Try.prog w = .ok (.tuple #[.agg #[.int .i64 0, .nilIface], .bool false]) w := by kernel_rfl
theorem ta_70_58 (v : Value) (w : World) : (Instr.typeAssert (.iface 70 v) 34 58 true).run Try.prog w = .ok (.tuple #[.agg #[.int .i64 0, .nilIface], .bool false]) w := by kernel_rfl
theorem ta_nil_59 (w : World) : (Instr.typeAssert .nilIface 34 59 true).run Try.prog w = .ok (.tuple #[.agg #[.int .i64 0, .nilIface], .bool false]) w := by kernel_rfl
theorem ta_51_59 (v : Value) (w : World) : (Instr.typeAssert (.iface 51 v) 34 59 true).run Try.prog w = .ok (.tuple #[.agg #[.int .i64 0, .nilIface], .bool false]) w := by kernel_rfl
theorem ta_60_59 (v : Value) (w : World) : (Instr.typeAssert (.iface 60 v) 34 59 true).run Try.prog w = .ok (.tuple #[.agg #[.int .i64 0, .nilIface], .bool false]) w := by kernel_rfl
theorem ta_74_59 (v : Value) (w : World) : (Instr.typeAssert (.iface 74 v) 34 59 true).run Try.prog w = .ok (.tuple #[.agg #[.int .i64 0, .nilIface], .bool false]) w := by kernel_rfl
theorem ta_76_59 (v : Value) (w : World) : (Instr.typeAssert (.iface 76 v) 34 59 true).run Try.prog w = .ok (.tuple #[.agg #[.int .i64 0, .nilIface], .bool false]) w := by kernel_rfl
theorem ta_78_59 (v : Value) (w : World) : (Instr.typeAssert (.iface 78 v) 34 59 true).run Try.prog w = .ok (.tuple #[.agg #[.int .i64 0, .nilIface], .bool false]) w := by kernel_rfl
theorem ta_58_59 (v : Value) (w : World) : (Instr.typeAssert (.iface 58 v) 34 59 true).run Try.prog w = .ok (.tuple #[.agg #[.int .i64 0, .nilIface], .bool false]) w := by kernel_rfl
theorem ta_59_59 (v : Value) (w : World) : (Instr.typeAssert (.iface 59 v) 34 59 true).run Try.prog w = .ok (.tuple #[v, .bool true]) w := by kernel_rfl
theorem ta_64_59 (v : Value) (w : World) : (Instr.typeAssert (.iface 64 v) 34 59 true).run Try.prog w = .ok (.tuple #[.agg #[.int .i64 0, .nilIface], .bool false]) w := by kernel_rfl
theorem ta_70_59 (v : Value) (w : World) : (Instr.typeAssert (.iface 70 v) 34 59 true).run Try.prog w = .ok (.tuple #[.agg #[.int .i64 0, .nilIface], .bool false]) w := by kernel_rfl
theorem ta_nil_64 (w : World) : (Instr.typeAssert .nilIface 34 64 true).run Try.prog w = .ok (.tuple #[.agg #[.nilIface, .nilIface, .nilIface], .bool false]) w := by kernel_rfl
theorem ta_51_64 (v : Value) (w : World) : (Instr.typeAssert (.iface 51 v) 34 64 true).run Try.prog w = .ok (.tuple #[.agg #[.nilIface, .nilIface, .nilIface], .bool false]) w := by kernel_rfl
theorem ta_60_64 (v : Value) (w : World) : (Instr.typeAssert (.iface 60 v) 34 64 true).run Try.prog w = .ok (.tuple #[.agg #[.nilIface, .nilIface, .nilIface], .bool false]) w := by kernel_rfl
theorem ta_74_64 (v : Value) (w : World) : (Instr.typeAssert (.iface 74 v) 34 64 true).run Try.prog w = .ok (.tuple #[.agg #[.nilIface, .nilIface, .nilIface], .bool false]) w := by kernel_rfl
theorem ta_76_64 (v : Value) (w : World) : (Instr.typeAssert (.iface 76 v) 34 64 true).run Try.prog w = .ok (.tuple #[.agg #[.nilIface, .nilIface, .nilIface], .bool false]) w := by kernel_rfl
theorem ta_78_64 (v : Value) (w : World) : (Instr.typeAssert (.iface 78 v) 34 64 true).run Try.prog w = .ok (.tuple #[.agg #[.nilIface, .nilIface, .nilIface], .bool false]) w := by kernel_rfl
theorem ta_58_64 (v : Value) (w : World) : (Instr.typeAssert (.iface 58 v) 34 64 true).run Try.prog w = .ok (.tuple #[.agg #[.nilIface, .nilIface, .nilIface], .bool false]) w := by kernel_rfl
theorem ta_59_64 (v : Value) (w : World) : (Instr.typeAssert (.iface 59 v) 34 64 true).run Try.prog w = .ok (.tuple #[.agg #[.nilIface, .nilIface, .nilIface], .bool false]) w := by kernel_rfl
theorem ta_64_64 (v : Value) (w : World) : (Instr.typeAssert (.iface 64 v) 34 64 true).run Try.prog w = .ok (.tuple #[v, .bool true]) w := by kernel_rfl
theorem ta_70_64 (v : Value) (w : World) : (Instr.typeAssert (.iface 70 v) 34 64 true).run Try.prog w = .ok (.tuple #[.agg #[.nilIface, .nilIface, .nilIface], .bool false]) w := by kernel_rfl
theorem ta_nil_70 (w : World) : (Instr.typeAssert .nilIface 34 70 true).run Try.prog w = .ok (.tuple #[.agg #[.nilIface, .slice none 0 0], .bool false]) w := by kernel_rfl
theorem ta_51_70 (v : Value) (w : World) : (Instr.typeAssert (.iface 51 v) 34 70 true).run Try.prog w = .ok (.tuple #[.agg #[.nilIface, .slice none 0 0], .bool false]) w := by kernel_rfl
theorem ta_60_70 (v : Value) (w : World) : (Instr.typeAssert (.iface 60 v) 34 70 true).run Try.prog w = .ok (.tuple #[.agg #[.nilIface, .slice none 0 0], .bool false]) w := by kernel_rfl
theorem ta_74_70 (v : Value) (w : World) : (Instr.typeAssert (.iface 74 v) 34 70 true).run Try.prog w = .ok (.tuple #[.agg #[.nilIface, .slice none 0 0], .bool false]) w := by kernel_rfl
theorem ta_76_70 (v : Value) (w : World) : (Instr.typeAssert (.iface 76 v) 34 70 true).run Try.prog w = .ok (.tuple #[.agg #[.nilIface, .slice none 0 0], .bool false]) w := by kernel_rfl
theorem ta_78_70 (v : Value) (w : World) : (Instr.typeAssert (.iface 78 v) 34 70 true).run Try.prog w = .ok (.tuple #[.agg #[.nilIface, .slice none 0 0], .bool false]) w := by kernel_rfl
theorem ta_58_70 (v : Value) (w : World) : (Instr.typeAssert (.iface 58 v) 34 70 true).run Try.prog w = .ok (.tuple #[.agg #[.nilIface, .slice none 0 0], .bool false]) w := by kernel_rfl
theorem ta_59_70 (v : Value) (w : World) : (Instr.typeAssert (.iface 59 v) 34 70 true).run Try.prog w = .ok (.tuple #[.agg #[.nilIface, .slice none 0 0], .bool false]) w := by kernel_rfl
theorem ta_64_70 (v : Value) (w : World) : (Instr.typeAssert (.iface 64 v) 34 70 true).run Try.prog w = .ok (.tuple #[.agg #[.nilIface, .slice none 0 0], .bool false]) w := by kernel_rfl
theorem ta_70_70 (v : Value) (w : World) : (Instr.typeAssert (.iface 70 v) 34 70 true).run Try.prog w = .ok (.tuple #[v, .bool true]) w := by kernel_rfl
attribute [local go_sem] ta_nil_58 ta_51_58 ta_60_58 ta_74_58 ta_76_58 ta_78_58 ta_58_58 ta_59_58 ta_64_58 ta_70_58 ta_nil_59 ta_51_59 ta_60_59 ta_74_59 ta_76_59 ta_78_59 ta_58_59 ta_59_59 ta_64_59 ta_70_59 ta_nil_64 ta_51_64 ta_60_64 ta_74_64 ta_76_64 ta_78_64 ta_58_64 ta_59_64 ta_64_64 ta_70_64 ta_nil_70 ta_51_70 ta_60_70 ta_74_70 ta_76_70 ta_78_70 ta_58_70 ta_59_70 ta_64_70 ta_70_70

set_option maxHeartbeats 400000 in
theorem targets_nil (w : World) : Calls Try.prog 11 #[.nilIface] w (TPost [] w) := by
  go_enter Try.func11, Try.ntmps11
  go_wp2
  go_ret
  exact TPost.none w _ (Below.refl _ _)
set_option maxHeartbeats 400000 in
theorem targets_51 (x : Value) (w : World) : Calls Try.prog 11 #[.iface 51 x] w (TPost [] w) := by
  go_enter Try.func11, Try.ntmps11
  go_wp2
  go_ret
  exact TPost.none w _ (Below.refl _ _)
set_option maxHeartbeats 400000 in
theorem targets_60 (x : Value) (w : World) : Calls Try.prog 11 #[.iface 60 x] w (TPost [] w) := by
  go_enter Try.func11, Try.ntmps11
  go_wp2
  go_ret
  exact TPost.none w _ (Below.refl _ _)
set_option maxHeartbeats 400000 in
theorem targets_74 (x : Value) (w : World) : Calls Try.prog 11 #[.iface 74 x] w (TPost [] w) := by
  go_enter Try.func11, Try.ntmps11
  go_wp2
  go_ret
  exact TPost.none w _ (Below.refl _ _)
set_option maxHeartbeats 400000 in
theorem targets_76 (x : Value) (w : World) : Calls Try.prog 11 #[.iface 76 x] w (TPost [] w) := by
  go_enter Try.func11, Try.ntmps11
  go_wp2
  go_ret
  exact TPost.none w _ (Below.refl _ _)
set_option maxHeartbeats 400000 in
theorem targets_78 (x : Value) (w : World) : Calls Try.prog 11 #[.iface 78 x] w (TPost [] w) := by
  go_enter Try.func11, Try.ntmps11
  go_wp2
  go_ret
  exact TPost.none w _ (Below.refl _ _)
set_option maxHeartbeats 400000 in
theorem targets_58_no (z : Int) (w : World) : Calls Try.prog 11 #[.iface 58 (.agg #[.int .i64 z, .iface 72 (.agg #[.int .i64 0])])] w (TPost [] w) := by
  go_enter Try.func11, Try.ntmps11
  go_wp2_with fail
  refine (fixed_no z _).mono ?_
  rintro e w' ⟨rfl, rfl⟩
  go_wp2_with fail
  go_ret
  exact TPost.none w _ (((Below.refl _ _).alloc (Nat.le_refl _) _).alloc (by simp) _)
set_option maxHeartbeats 400000 in
theorem targets_58_yes (z : Int) (w : World) : Calls Try.prog 11 #[.iface 58 (.agg #[.int .i64 z, .nilIface])] w (TPost [z] w) := by
  go_enter Try.func11, Try.ntmps11
  go_wp2_with fail
  refine (fixed_yes z _).mono ?_
  rintro e w' ⟨rfl, rfl⟩
  go_wp2_with fail
  go_ret
  exact ⟨_, rfl, res_one _ _ z _ (by rw [nblk_alloc, nblk_alloc]), (((Below.refl _ _).alloc (Nat.le_refl _) _).alloc (by simp) _).alloc (by simp; omega) _⟩
set_option maxHeartbeats 400000 in
theorem targets_59_no (z : Int) (w : World) : Calls Try.prog 11 #[.iface 59 (.agg #[.int .i64 z, .iface 72 (.agg #[.int .i64 0])])] w (TPost [] w) := by
  go_enter Try.func11, Try.ntmps11
  go_wp2_with fail
  refine (fixed_no z _).mono ?_
  rintro e w' ⟨rfl, rfl⟩
  go_wp2_with fail
  go_ret
  exact TPost.none w _ (((Below.refl _ _).alloc (Nat.le_refl _) _).alloc (by simp) _)
set_option maxHeartbeats 400000 in
theorem targets_59_yes (z : Int) (w : World) : Calls Try.prog 11 #[.iface 59 (.agg #[.int .i64 z, .nilIface])] w (TPost [z] w) := by
  go_enter Try.func11, Try.ntmps11
  go_wp2_with fail
  refine (fixed_yes z _).mono ?_
  rintro e w' ⟨rfl, rfl⟩
  go_wp2_with fail
  go_ret
  exact ⟨_, rfl, res_one _ _ z _ (by rw [nblk_alloc, nblk_alloc]), (((Below.refl _ _).alloc (Nat.le_refl _) _).alloc (by simp) _).alloc (by simp; omega) _⟩
set_option maxHeartbeats 400000 in
theorem targets_70 (g : Nat) (L : List Int) (t : TypeId) (y : Value) (w : World) (hr : w.rowIs g 3 L.length (rowF L)) (hl : L.length ≤ 1000000) : Calls Try.prog 11 #[.iface 70 (.agg #[.iface t y, sl g L])] w (TPost L w) := by
  have hg := hr.lt
  have HR : Hid (w.rowIs g 3 L.length (rowF L)) := hr
  clear hr
  unfold sl
  go_enter Try.func11, Try.ntmps11
  go_wp2_with fail
  go_ret
  refine ⟨_, rfl, .inr ⟨g, 0, L.length, rfl, Nat.le_refl _, by unfold maxLen; omega, by simp; omega, fun i hi => ?_, .inl rfl⟩, (Below.refl _ _).alloc (Nat.le_refl _) _⟩
  rw [Nat.zero_add]
  exact (HR.out.alloc (.cells #[.iface t y, .slice (some ⟨g, 0, none⟩) L.length L.length] 70)).cell hi

/-- THE CONTRACT. -/
theorem leaf_targets (rows : List (Nat × List Int)) (v : Value) (ts : List Int) (w : World) (h : Leaf rows v ts) (hr : ∀ p ∈ rows, w.rowIs p.1 3 p.2.length (rowF p.2)) (hl : ts.length ≤ 1000000) : Calls Try.prog 11 #[v] w (TPost ts w) := by
  rcases h with ⟨h, rfl⟩ | ⟨z, h, rfl⟩ | ⟨z, h, rfl⟩ | ⟨g, L, t, y, rfl, hm, rfl⟩
  · rcases h with rfl | ⟨x, rfl | rfl | rfl | rfl | rfl⟩
    · exact targets_nil w
    · exact targets_51 x w
    · exact targets_60 x w
    · exact targets_74 x w
    · exact targets_76 x w
    · exact targets_78 x w
  · rcases h with rfl | rfl
    · exact targets_58_yes z w
    · exact targets_59_yes z w
  · rcases h with rfl | rfl
    · exact targets_58_no z w
    · exact targets_59_no z w
  · exact targets_70 g ts t y w (hr _ hm) hl

theorem leaf_form {rows : List (Nat × List Int)} {v : Value} {ts : List Int} (h : Leaf rows v ts) : v = .nilIface ∨ ∃ t x, v = .iface t x := by
  rcases h with ⟨h, rfl⟩ | ⟨z, h, rfl⟩ | ⟨z, h, rfl⟩ | ⟨g, L, t, y, rfl, hm, rfl⟩
  · rcases h with rfl | ⟨x, rfl | rfl | rfl | rfl | rfl⟩
    · exact .inl rfl
    all_goals exact .inr ⟨_, _, rfl⟩
  · rcases h with rfl | rfl <;> exact .inr ⟨_, _, rfl⟩
  · rcases h with rfl | rfl <;> exact .inr ⟨_, _, rfl⟩
  · exact .inr ⟨_, _, rfl⟩
theorem stmt_form {rows : List (Nat × List Int)} {n : Nat} {v : Value} {ts : List Int} (h : IsStmt rows n v ts) : v = .nilIface ∨ ∃ t x, v = .iface t x := by
  cases n with
  | zero => exact leaf_form h
  | succ n =>
    rcases h with h | ⟨a, b, ta, tb, rfl, _⟩
    · exact leaf_form h
    · exact .inr ⟨_, _, rfl⟩

set_option maxHeartbeats 3200000 in
theorem targets_any (rows : List (Nat × List Int)) (n : Nat) : ∀ (v : Value) (ts : List Int) (w : World), IsStmt rows n v ts → (∀ p ∈ rows, w.rowIs p.1 3 p.2.length (rowF p.2)) → ts.length ≤ 1000000 → Calls Try.prog 11 #[v] w (TPost ts w) := by
  induction n with
  | zero => exact fun v ts w h hr hl => leaf_targets rows v ts w h hr hl
  | succ n ih =>
    intro v ts w h hr hl
    rcases h with h | ⟨a, b, ta, tb, rfl, ha, hb, rfl⟩
    · exact leaf_targets rows v ts w h hr hl
    · rw [List.length_append] at hl
      have HA : Hid (∀ W : World, (∀ p ∈ rows, W.rowIs p.1 3 p.2.length (rowF p.2)) → Calls Try.prog 11 #[a] W (TPost ta W)) := fun W hW => ih a ta W ha hW (by omega)
      have HB : Hid (∀ W : World, (∀ p ∈ rows, W.rowIs p.1 3 p.2.length (rowF p.2)) → Calls Try.prog 11 #[b] W (TPost tb W)) := fun W hW => ih b tb W hb hW (by omega)
      have HR : Hid (∀ p ∈ rows, w.rowIs p.1 3 p.2.length (rowF p.2)) := hr
      have fa := stmt_form ha
      have fb := stmt_form hb
      clear ih ha hb hr
      rcases fa with rfl | ⟨t1, x1, rfl⟩
      all_goals rcases fb with rfl | ⟨t2, x2, rfl⟩
      · have r1 := World.rowIs_alloc w #[.nilIface, .nilIface, .nilIface] 64 (fun i => if i = 0 then .nilIface else if i = 1 then .nilIface else .nilIface) (fun i hi => by match i, hi with | 0, _ => rfl | 1, _ => rfl | 2, _ => rfl)
        have c1 : (w.alloc (.cells #[.nilIface, .nilIface, .nilIface] 64)).cell? ⟨w.heap.size, 1, none⟩ = some (.nilIface) := r1.cell (i := 1) (by simp)
        have c2 : (w.alloc (.cells #[.nilIface, .nilIface, .nilIface] 64)).cell? ⟨w.heap.size, 2, none⟩ = some (.nilIface) := r1.cell (i := 2) (by simp)
        have HRX : Hid (∀ p ∈ rows, (w.alloc (.cells #[.nilIface, .nilIface, .nilIface] 64)).rowIs p.1 3 p.2.length (rowF p.2)) := fun p hp => (HR.out p hp).alloc _
        have hbx : Below w.heap.size w (w.alloc (.cells #[.nilIface, .nilIface, .nilIface] 64)) := (Below.refl _ _).alloc (Nat.le_refl _) _
        have hsx : w.heap.size < (w.alloc (.cells #[.nilIface, .nilIface, .nilIface] 64)).heap.size := by simp
        clear r1
        go_enter Try.func11, Try.ntmps11
        go_wp2_with fail
        generalize w.alloc (.cells #[.nilIface, .nilIface, .nilIface] 64) = wx at *
        go_region_held3 (fun w' => w'.cell? ⟨w.heap.size, 1, none⟩ = some (.nilIface) ∧ w'.cell? ⟨w.heap.size, 2, none⟩ = some (.nilIface))
          (first | go_keep | (exact ⟨(hbel1.cell (p := ⟨w.heap.size, 1, none⟩) hsx).trans c1, (hbel1.cell (p := ⟨w.heap.size, 2, none⟩) hsx).trans c2⟩) | (exact ⟨(hbel2.cell (p := ⟨w.heap.size, 1, none⟩) (Nat.lt_of_lt_of_le hsx hbel1.size)).trans ((hbel1.cell (p := ⟨w.heap.size, 1, none⟩) hsx).trans c1), (hbel2.cell (p := ⟨w.heap.size, 2, none⟩) (Nat.lt_of_lt_of_le hsx hbel1.size)).trans ((hbel1.cell (p := ⟨w.heap.size, 2, none⟩) hsx).trans c2)⟩) | (exact ⟨(hb3.cell (p := ⟨w.heap.size, 1, none⟩) hsx).trans ((hbel2.cell (p := ⟨w.heap.size, 1, none⟩) (Nat.lt_of_lt_of_le hsx hbel1.size)).trans ((hbel1.cell (p := ⟨w.heap.size, 1, none⟩) hsx).trans c1)), (hb3.cell (p := ⟨w.heap.size, 2, none⟩) hsx).trans ((hbel2.cell (p := ⟨w.heap.size, 2, none⟩) (Nat.lt_of_lt_of_le hsx hbel1.size)).trans ((hbel1.cell (p := ⟨w.heap.size, 2, none⟩) hsx).trans c2))⟩))
          (first | (go_at_call 11; first | (have hq := hXa; refine (HB.out _ (by exact fun p hp => ((HRX.out p hp).of_block (hbel1.block p.1 (HRX.out p hp).lt)))).mono ?_; rintro e w2 ⟨Y, rfl, hXb, hbel2⟩) | (refine (HA.out _ (by exact fun p hp => HRX.out p hp)).mono ?_; rintro e w1 ⟨X, rfl, hXa, hbel1⟩)) | (refine step_append_res rfl (.tmp 25) (.tmp 28) rfl wx.heap.size _ X Y ta tb (by rfl) (by rfl) (by exact hXa.kept hbel2) hXb (by exact Nat.le_trans hbel1.size hbel2.size) hl ?_; intro v' w3 hRes hb3))
        all_goals go_wp2
        all_goals go_ret
        all_goals exact ⟨v', rfl, hRes.mono (Nat.le_of_lt hsx), hbx.drew.trans ((hbel1.mono (by exact Nat.le_of_lt hsx)).trans ((hbel2.mono (Nat.le_trans (Nat.le_of_lt hsx) hbel1.size)).trans (hb3.mono (Nat.le_of_lt hsx))))⟩
      · have r1 := World.rowIs_alloc w #[.nilIface, .nilIface, .iface t2 x2] 64 (fun i => if i = 0 then .nilIface else if i = 1 then .nilIface else .iface t2 x2) (fun i hi => by match i, hi with | 0, _ => rfl | 1, _ => rfl | 2, _ => rfl)
        have c1 : (w.alloc (.cells #[.nilIface, .nilIface, .iface t2 x2] 64)).cell? ⟨w.heap.size, 1, none⟩ = some (.nilIface) := r1.cell (i := 1) (by simp)
        have c2 : (w.alloc (.cells #[.nilIface, .nilIface, .iface t2 x2] 64)).cell? ⟨w.heap.size, 2, none⟩ = some (.iface t2 x2) := r1.cell (i := 2) (by simp)
        have HRX : Hid (∀ p ∈ rows, (w.alloc (.cells #[.nilIface, .nilIface, .iface t2 x2] 64)).rowIs p.1 3 p.2.length (rowF p.2)) := fun p hp => (HR.out p hp).alloc _
        have hbx : Below w.heap.size w (w.alloc (.cells #[.nilIface, .nilIface, .iface t2 x2] 64)) := (Below.refl _ _).alloc (Nat.le_refl _) _
        have hsx : w.heap.size < (w.alloc (.cells #[.nilIface, .nilIface, .iface t2 x2] 64)).heap.size := by simp
        clear r1
        go_enter Try.func11, Try.ntmps11
        go_wp2_with fail
        generalize w.alloc (.cells #[.nilIface, .nilIface, .iface t2 x2] 64) = wx at *
        go_region_held3 (fun w' => w'.cell? ⟨w.heap.size, 1, none⟩ = some (.nilIface) ∧ w'.cell? ⟨w.heap.size, 2, none⟩ = some (.iface t2 x2))
          (first | go_keep | (exact ⟨(hbel1.cell (p := ⟨w.heap.size, 1, none⟩) hsx).trans c1, (hbel1.cell (p := ⟨w.heap.size, 2, none⟩) hsx).trans c2⟩) | (exact ⟨(hbel2.cell (p := ⟨w.heap.size, 1, none⟩) (Nat.lt_of_lt_of_le hsx hbel1.size)).trans ((hbel1.cell (p := ⟨w.heap.size, 1, none⟩) hsx).trans c1), (hbel2.cell (p := ⟨w.heap.size, 2, none⟩) (Nat.lt_of_lt_of_le hsx hbel1.size)).trans ((hbel1.cell (p := ⟨w.heap.size, 2, none⟩) hsx).trans c2)⟩) | (exact ⟨(hb3.cell (p := ⟨w.heap.size, 1, none⟩) hsx).trans ((hbel2.cell (p := ⟨w.heap.size, 1, none⟩) (Nat.lt_of_lt_of_le hsx hbel1.size)).trans ((hbel1.cell (p := ⟨w.heap.size, 1, none⟩) hsx).trans c1)), (hb3.cell (p := ⟨w.heap.size, 2, none⟩) hsx).trans ((hbel2.cell (p := ⟨w.heap.size, 2, none⟩) (Nat.lt_of_lt_of_le hsx hbel1.size)).trans ((hbel1.cell (p := ⟨w.heap.size, 2, none⟩) hsx).trans c2))⟩))
          (first | (go_at_call 11; first | (have hq := hXa; refine (HB.out _ (by exact fun p hp => ((HRX.out p hp).of_block (hbel1.block p.1 (HRX.out p hp).lt)))).mono ?_; rintro e w2 ⟨Y, rfl, hXb, hbel2⟩) | (refine (HA.out _ (by exact fun p hp => HRX.out p hp)).mono ?_; rintro e w1 ⟨X, rfl, hXa, hbel1⟩)) | (refine step_append_res rfl (.tmp 25) (.tmp 28) rfl wx.heap.size _ X Y ta tb (by rfl) (by rfl) (by exact hXa.kept hbel2) hXb (by exact Nat.le_trans hbel1.size hbel2.size) hl ?_; intro v' w3 hRes hb3))
        all_goals go_wp2
        all_goals go_ret
        all_goals exact ⟨v', rfl, hRes.mono (Nat.le_of_lt hsx), hbx.drew.trans ((hbel1.mono (by exact Nat.le_of_lt hsx)).trans ((hbel2.mono (Nat.le_trans (Nat.le_of_lt hsx) hbel1.size)).trans (hb3.mono (Nat.le_of_lt hsx))))⟩
      · have r1 := World.rowIs_alloc w #[.nilIface, .iface t1 x1, .nilIface] 64 (fun i => if i = 0 then .nilIface else if i = 1 then .iface t1 x1 else .nilIface) (fun i hi => by match i, hi with | 0, _ => rfl | 1, _ => rfl | 2, _ => rfl)
        have c1 : (w.alloc (.cells #[.nilIface, .iface t1 x1, .nilIface] 64)).cell? ⟨w.heap.size, 1, none⟩ = some (.iface t1 x1) := r1.cell (i := 1) (by simp)
        have c2 : (w.alloc (.cells #[.nilIface, .iface t1 x1, .nilIface] 64)).cell? ⟨w.heap.size, 2, none⟩ = some (.nilIface) := r1.cell (i := 2) (by simp)
        have HRX : Hid (∀ p ∈ rows, (w.alloc (.cells #[.nilIface, .iface t1 x1, .nilIface] 64)).rowIs p.1 3 p.2.length (rowF p.2)) := fun p hp => (HR.out p hp).alloc _
        have hbx : Below w.heap.size w (w.alloc (.cells #[.nilIface, .iface t1 x1, .nilIface] 64)) := (Below.refl _ _).alloc (Nat.le_refl _) _
        have hsx : w.heap.size < (w.alloc (.cells #[.nilIface, .iface t1 x1, .nilIface] 64)).heap.size := by simp
        clear r1
        go_enter Try.func11, Try.ntmps11
        go_wp2_with fail
        generalize w.alloc (.cells #[.nilIface, .iface t1 x1, .nilIface] 64) = wx at *
        go_region_held3 (fun w' => w'.cell? ⟨w.heap.size, 1, none⟩ = some (.iface t1 x1) ∧ w'.cell? ⟨w.heap.size, 2, none⟩ = some (.nilIface))
          (first | go_keep | (exact ⟨(hbel1.cell (p := ⟨w.heap.size, 1, none⟩) hsx).trans c1, (hbel1.cell (p := ⟨w.heap.size, 2, none⟩) hsx).trans c2⟩) | (exact ⟨(hbel2.cell (p := ⟨w.heap.size, 1, none⟩) (Nat.lt_of_lt_of_le hsx hbel1.size)).trans ((hbel1.cell (p := ⟨w.heap.size, 1, none⟩) hsx).trans c1), (hbel2.cell (p := ⟨w.heap.size, 2, none⟩) (Nat.lt_of_lt_of_le hsx hbel1.size)).trans ((hbel1.cell (p := ⟨w.heap.size, 2, none⟩) hsx).trans c2)⟩) | (exact ⟨(hb3.cell (p := ⟨w.heap.size, 1, none⟩) hsx).trans ((hbel2.cell (p := ⟨w.heap.size, 1, none⟩) (Nat.lt_of_lt_of_le hsx hbel1.size)).trans ((hbel1.cell (p := ⟨w.heap.size, 1, none⟩) hsx).trans c1)), (hb3.cell (p := ⟨w.heap.size, 2, none⟩) hsx).trans ((hbel2.cell (p := ⟨w.heap.size, 2, none⟩) (Nat.lt_of_lt_of_le hsx hbel1.size)).trans ((hbel1.cell (p := ⟨w.heap.size, 2, none⟩) hsx).trans c2))⟩))
          (first | (go_at_call 11; first | (have hq := hXa; refine (HB.out _ (by exact fun p hp => ((HRX.out p hp).of_block (hbel1.block p.1 (HRX.out p hp).lt)))).mono ?_; rintro e w2 ⟨Y, rfl, hXb, hbel2⟩) | (refine (HA.out _ (by exact fun p hp => HRX.out p hp)).mono ?_; rintro e w1 ⟨X, rfl, hXa, hbel1⟩)) | (refine step_append_res rfl (.tmp 25) (.tmp 28) rfl wx.heap.size _ X Y ta tb (by rfl) (by rfl) (by exact hXa.kept hbel2) hXb (by exact Nat.le_trans hbel1.size hbel2.size) hl ?_; intro v' w3 hRes hb3))
        all_goals go_wp2
        all_goals go_ret
        all_goals exact ⟨v', rfl, hRes.mono (Nat.le_of_lt hsx), hbx.drew.trans ((hbel1.mono (by exact Nat.le_of_lt hsx)).trans ((hbel2.mono (Nat.le_trans (Nat.le_of_lt hsx) hbel1.size)).trans (hb3.mono (Nat.le_of_lt hsx))))⟩
      · have r1 := World.rowIs_alloc w #[.nilIface, .iface t1 x1, .iface t2 x2] 64 (fun i => if i = 0 then .nilIface else if i = 1 then .iface t1 x1 else .iface t2 x2) (fun i hi => by match i, hi with | 0, _ => rfl | 1, _ => rfl | 2, _ => rfl)
        have c1 : (w.alloc (.cells #[.nilIface, .iface t1 x1, .iface t2 x2] 64)).cell? ⟨w.heap.size, 1, none⟩ = some (.iface t1 x1) := r1.cell (i := 1) (by simp)
        have c2 : (w.alloc (.cells #[.nilIface, .iface t1 x1, .iface t2 x2] 64)).cell? ⟨w.heap.size, 2, none⟩ = some (.iface t2 x2) := r1.cell (i := 2) (by simp)
        have HRX : Hid (∀ p ∈ rows, (w.alloc (.cells #[.nilIface, .iface t1 x1, .iface t2 x2] 64)).rowIs p.1 3 p.2.length (rowF p.2)) := fun p hp => (HR.out p hp).alloc _
        have hbx : Below w.heap.size w (w.alloc (.cells #[.nilIface, .iface t1 x1, .iface t2 x2] 64)) := (Below.refl _ _).alloc (Nat.le_refl _) _
        have hsx : w.heap.size < (w.alloc (.cells #[.nilIface, .iface t1 x1, .iface t2 x2] 64)).heap.size := by simp
        clear r1
        go_enter Try.func11, Try.ntmps11
        go_wp2_with fail
        generalize w.alloc (.cells #[.nilIface, .iface t1 x1, .iface t2 x2] 64) = wx at *
        go_region_held3 (fun w' => w'.cell? ⟨w.heap.size, 1, none⟩ = some (.iface t1 x1) ∧ w'.cell? ⟨w.heap.size, 2, none⟩ = some (.iface t2 x2))
          (first | go_keep | (exact ⟨(hbel1.cell (p := ⟨w.heap.size, 1, none⟩) hsx).trans c1, (hbel1.cell (p := ⟨w.heap.size, 2, none⟩) hsx).trans c2⟩) | (exact ⟨(hbel2.cell (p := ⟨w.heap.size, 1, none⟩) (Nat.lt_of_lt_of_le hsx hbel1.size)).trans ((hbel1.cell (p := ⟨w.heap.size, 1, none⟩) hsx).trans c1), (hbel2.cell (p := ⟨w.heap.size, 2, none⟩) (Nat.lt_of_lt_of_le hsx hbel1.size)).trans ((hbel1.cell (p := ⟨w.heap.size, 2, none⟩) hsx).trans c2)⟩) | (exact ⟨(hb3.cell (p := ⟨w.heap.size, 1, none⟩) hsx).trans ((hbel2.cell (p := ⟨w.heap.size, 1, none⟩) (Nat.lt_of_lt_of_le hsx hbel1.size)).trans ((hbel1.cell (p := ⟨w.heap.size, 1, none⟩) hsx).trans c1)), (hb3.cell (p := ⟨w.heap.size, 2, none⟩) hsx).trans ((hbel2.cell (p := ⟨w.heap.size, 2, none⟩) (Nat.lt_of_lt_of_le hsx hbel1.size)).trans ((hbel1.cell (p := ⟨w.heap.size, 2, none⟩) hsx).trans c2))⟩))
          (first | (go_at_call 11; first | (have hq := hXa; refine (HB.out _ (by exact fun p hp => ((HRX.out p hp).of_block (hbel1.block p.1 (HRX.out p hp).lt)))).mono ?_; rintro e w2 ⟨Y, rfl, hXb, hbel2⟩) | (refine (HA.out _ (by exact fun p hp => HRX.out p hp)).mono ?_; rintro e w1 ⟨X, rfl, hXa, hbel1⟩)) | (refine step_append_res rfl (.tmp 25) (.tmp 28) rfl wx.heap.size _ X Y ta tb (by rfl) (by rfl) (by exact hXa.kept hbel2) hXb (by exact Nat.le_trans hbel1.size hbel2.size) hl ?_; intro v' w3 hRes hb3))
        all_goals go_wp2
        all_goals go_ret
        all_goals exact ⟨v', rfl, hRes.mono (Nat.le_of_lt hsx), hbx.drew.trans ((hbel1.mono (by exact Nat.le_of_lt hsx)).trans ((hbel2.mono (Nat.le_trans (Nat.le_of_lt hsx) hbel1.size)).trans (hb3.mono (Nat.le_of_lt hsx))))⟩
end Go.Proofs.Qxb6002364a
