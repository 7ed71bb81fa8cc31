/-
  The seat's own text: the walk of the law.
-/
import Derived.Test.Qxb6600076aFind
import Derived.Test.Qxb6600076aAcc
namespace Go.Proofs.Qxb6600076a
open Go.RowKit Go.Deep Go.Maps
set_option linter.unusedSimpArgs false

def MainPost (w : World) (e : Ending) (w' : World) : Prop := e = .returned (.bool true) ∧ Below w.heap.size w w'

/-- 'p, ok := m[k]' where the entry at the key is told. -/
theorem look_P (w : World) {ops : Array Oper} {rest : List Oper} {o : Oper} {a : Act} {Q : Exit → Act → World → Prop} (hg : o.guard = none) (m x : Operand) (hop : o.op = Op.lookup 32 m x true)
    (b n : Nat) (D : DataW Unit) (hm : a.eval m = .map (some b)) (hM : MapAt w b n D) (k : Int) (hx : a.eval x = .int .u64 k) (hw : (Lit.int .u64 k).wf = true) (q : Pr) (hq : D.atKey (.int .u64 k) zeroP.dat = q.dat) (hh : HasK D k)
    (hK : wpList Try.prog ops Q rest (a.put o.dst (.tuple #[.agg #[.int .u64 q.r, .int .u32 q.a, .int .u32 q.b, .int .u64 q.c, .string q.s, .bool q.x], .bool true])) w) :
    wpList Try.prog ops Q (o :: rest) a w :=
  wpList_lookup_own_ok w hg m x 32 hop 40 49 law Try.underlying32 elemP (zeroE _) zeroP.dat [] (elemP_val zeroP) b n D hm hM _ _ hx (keyOf_int_mk Try.underlying40 hw) (fun v ps hv => by
    obtain ⟨p, rfl, hp⟩ := elemP_inv hv
    have e : p = q := dat_inj (by rw [← hq]; injection hp with h1 _; exact h1.symm)
    subst e
    rw [show Maps.has D (.int .u64 k) = true from hh]
    exact hK)

def AnyFrom (f : Int) (l : List Int) : Prop := ∃ x ∈ l, f ≤ x
theorem any_step {f : Int} {zs : List Int} {k : Nat} (hk : k < zs.length) {b : Bool} (h : b = true ↔ AnyFrom f (zs.take k)) (hf : ¬ f ≤ zs.getD k 0) : b = true ↔ AnyFrom f (zs.take (k + 1)) := by
  have e : zs.getD k 0 = zs[k] := by simp [List.getD, List.getElem?_eq_getElem hk]
  rw [e] at hf
  rw [h, List.take_succ_eq_append_getElem hk]
  unfold AnyFrom
  constructor
  · rintro ⟨x, hx, hfx⟩; exact ⟨x, List.mem_append_left _ hx, hfx⟩
  · rintro ⟨x, hx, hfx⟩
    rcases List.mem_append.1 hx with hx | hx
    · exact ⟨x, hx, hfx⟩
    · simp at hx; subst hx; exact absurd hfx hf
theorem any_yes {f : Int} {zs : List Int} {k : Nat} (hk : k < zs.length) (hf : f ≤ zs.getD k 0) : AnyFrom f (zs.take (k + 1)) := by
  have e : zs.getD k 0 = zs[k] := by simp [List.getD, List.getElem?_eq_getElem hk]
  rw [e] at hf
  rw [List.take_succ_eq_append_getElem hk]
  exact ⟨zs[k], List.mem_append_right _ (List.mem_singleton.2 rfl), hf⟩

set_option maxRecDepth 100000 in
set_option maxHeartbeats 1600000 in
theorem main_any (A0 A1 : Option Addr) (c0 c1 : Nat) (zs rs : List Int) (f : Int) (w : World) (h0 : ArrAt w w.heap.size A0 zs.length (fun i => .int .u64 (zs.getD i 0))) (h1 : ArrAt w w.heap.size A1 rs.length (fun i => .int .u64 (rs.getD i 0)))
    (hz : ∀ n ∈ zs, (Lit.int .u64 n).wf = true) : Calls Try.prog 4 #[.slice A0 zs.length c0, .slice A1 rs.length c1, .int .u64 f] w (MainPost w) := by
  have hq := fun (w : World) (a : Option Addr) (n c n' c' : Nat) => Lib.run_eql_slice_nil (P := Try.prog) w 38 51 a n c n' c' Try.underlying38
  go_enter Try.func4, Try.ntmps4
  go_wp2_with fail
  refine (bytes_any A0 A1 zs.length c0 rs.length c1 f _).mono ?_
  rintro e w ⟨b, rfl, rfl⟩
  cases b with
  | false =>
    go_wp2_with fail
    go_ret
    exact ⟨rfl, Below.refl _ _⟩
  | true =>
  by_cases hn : (zs.length : Int) > 65536
  · go_wp2_with fail
    go_ret
    exact ⟨rfl, Below.refl _ _⟩
  by_cases hm : (rs.length : Int) > 65536
  · go_wp2_with fail
    go_ret
    exact ⟨rfl, Below.refl _ _⟩
  go_wp2_with fail
  refine (acc_any A0 A1 c0 c1 zs rs w h0 h1 hz (by omega) (by omega)).mono ?_
  rintro e w1 ⟨D, rfl, hM, hH, hb1⟩
  have hl1 : w.heap.size < w1.heap.size := World.ownsMap.lt hM
  go_wp2_with fail
  refine (new_any 1 w.heap.size w1).mono ?_
  rintro e w2 ⟨rfl, hc2, hb2⟩
  have hM2 : MapAt w2 w.heap.size zs.length D := hM.below hb2 hl1
  go_wp2_with fail
  refine (shim_any w1.heap.size w.heap.size zs.length D f w2 hc2 hM2 (by omega)).mono ?_
  rintro e w3 ⟨v, es, rfl, hrow, hS, hat, hnil, hlen, hb3⟩
  obtain ⟨A, cap, rfl, hG⟩ := got_of hrow
  have hM3 : MapAt w3 w.heap.size zs.length D := hM2.below hb3 (by have := hb2.size; omega)
  have hbel : Below w.heap.size w w3 := hb1.trans ((hb2.mono (by omega)).trans (hb3.mono (by have := hb2.size; omega)))
  have hA3 := h0.below hbel
  have hN : zs.length ≤ 65536 := by omega
  have hl3 : w.heap.size < w3.heap.size := World.ownsMap.lt hM3
  clear hM hM2 hc2 hb1 hb2 hb3 hrow h0 h1 hm hn
  go_wp2_with fail
  go_loopg [10, 11] zs.length (fun m v10 v11 wr => ∃ (k : Nat) (b : Bool), k ≤ zs.length ∧ m = zs.length - k ∧ v10 = .bool b ∧ v11 = .int .i64 k ∧ (b = true ↔ AnyFrom f (zs.take k)) ∧ wr = w3)
  case atStart => exact ⟨0, false, Nat.zero_le _, rfl, rfl, rfl, by simp [AnyFrom], rfl⟩
  case round =>
    obtain ⟨k, b, hk, rfl, rfl, rfl, hb, rfl⟩ := hrel
    by_cases hlt : k < zs.length
    · obtain ⟨bb, o, ea, hbb, hc⟩ := hA3 (by omega)
      cases ea
      have hcz : wr.cell? ⟨bb, o + k, none⟩ = some (.int .u64 (zs.getD k 0)) := hc k hlt
      have HY : Hid (f ≤ zs.getD k 0 → AnyFrom f (zs.take (k + 1))) := fun h => any_yes hlt h
      have HNo : Hid (¬ f ≤ zs.getD k 0 → (b = true ↔ AnyFrom f (zs.take (k + 1)))) := fun h => any_step hlt hb h
      have hin : f ≤ zs.getD k 0 → zs.getD k 0 ∈ es.map (·.1) := fun h => (hS.mem _).2 ⟨(hH _).2 (by simp [List.getD, List.getElem?_eq_getElem hlt]), h⟩
      clear hc hb hA3 hq
      generalize zs.getD k 0 = z at *
      by_cases hf : f ≤ z
      · have hfind := find_any A cap wr.heap.size es z wr hG hS.up (hin hf) hlen
        clear hin hS hat hG hM3
        go_wp2_with (go_at_call 15; refine hfind.mono ?_; rintro e w' ⟨rfl, rfl⟩)
        go_roundg (zs.length - (k + 1))
        case measure => omega
        case rel => exact ⟨k + 1, true, by omega, rfl, rfl, by go_num, ⟨fun _ => HY.out hf, fun _ => rfl⟩, rfl⟩
      · clear hin hS hat hG hM3
        go_wp2_with fail
        go_roundg (zs.length - (k + 1))
        case measure => omega
        case rel => exact ⟨k + 1, b, by omega, rfl, rfl, by go_num, HNo.out hf, rfl⟩
    · have e : k = zs.length := by omega
      subst e
      rw [List.take_length] at hb
      cases b with
      | false =>
        have e0 : es = [] := by
          cases es with
          | nil => rfl
          | cons e es =>
            have := (hS.mem e.1).1 (by simp)
            exact absurd (hb.2 ⟨e.1, (hH _).1 this.1, this.2⟩) (by simp)
        subst e0
        obtain ⟨rfl, rfl⟩ : A = none ∧ cap = 0 := by simpa using hnil rfl
        clear hS hat hG hM3 hb hA3
        go_wp2_with fail
        go_ret
        exact ⟨rfl, hbel⟩
      | true =>
        clear hb hA3 hnil hq
        go_wp2_with fail
        obtain ⟨wo, rfl⟩ : ∃ wo, wo = wr := ⟨wr, rfl⟩
        generalize hes : es.length = N at *
        go_loopg [12] N (fun m v12 wx => ∃ k : Nat, k ≤ N ∧ m = N - k ∧ v12 = .int .i64 k ∧ Below wo.heap.size wo wx)
        case atStart => exact ⟨0, Nat.zero_le _, rfl, rfl, Below.refl _ _⟩
        case round =>
          obtain ⟨k, hk, rfl, rfl, hb⟩ := hrel
          by_cases hlt : k < N
          · have hkl : k < es.length := by omega
            obtain ⟨g, ea, hg, hcg⟩ := hG (by omega)
            cases ea
            obtain ⟨x, q, he⟩ : ∃ x q, es[k] = (x, q) := ⟨_, _, rfl⟩
            have hme : (x, q) ∈ es := by rw [← he]; exact List.getElem_mem hkl
            have hmx : x ∈ es.map (·.1) := List.mem_map.2 ⟨(x, q), hme, rfl⟩
            have hge : f ≤ x := ((hS.mem x).1 hmx).2
            have hhas : HasK D x := ((hS.mem x).1 hmx).1
            have hwf := hS.wf x hmx
            have hq : D.atKey (.int .u64 x) zeroP.dat = q.dat := hat _ hme
            have hcl : ∀ c, c < 7 → wr.cell? ⟨g, k * 7 + c, none⟩ = (ent (x, q))[c]? := fun c hc => by rw [← he]; exact (hb.cell (p := ⟨g, k * 7 + c, none⟩) hg).trans (hcg k hkl c hc)
            have d0 : wr.cell? ⟨g, k * 7, none⟩ = some (.int .u64 x) := hcl 0 (by omega)
            have d1 : wr.cell? ⟨g, k * 7 + 1, none⟩ = some (.int .u64 q.r) := hcl 1 (by omega)
            have d2 : wr.cell? ⟨g, k * 7 + 2, none⟩ = some (.int .u32 q.a) := hcl 2 (by omega)
            have d3 : wr.cell? ⟨g, k * 7 + 3, none⟩ = some (.int .u32 q.b) := hcl 3 (by omega)
            have d4 : wr.cell? ⟨g, k * 7 + 4, none⟩ = some (.int .u64 q.c) := hcl 4 (by omega)
            have d5 : wr.cell? ⟨g, k * 7 + 5, none⟩ = some (.string q.s) := hcl 5 (by omega)
            have d6 : wr.cell? ⟨g, k * 7 + 6, none⟩ = some (.bool q.x) := hcl 6 (by omega)
            have hMx : MapAt wr w.heap.size zs.length D := hM3.below hb hl3
            have hgl : g < wr.heap.size := Nat.lt_of_lt_of_le hg hb.size
            have HB : Hid (Below wo.heap.size wo wr) := hb
            have HP : Hid (0 < k → ∃ j y, k = j + 1 ∧ wr.cell? ⟨g, j * 7, none⟩ = some (.int .u64 y) ∧ y < x) := by
              intro hk0
              obtain ⟨j, rfl⟩ : ∃ j, k = j + 1 := ⟨k - 1, by omega⟩
              refine ⟨j, (es[j]'(by omega)).1, rfl, (hb.cell (p := ⟨g, j * 7, none⟩) hg).trans (hcg j (by omega) 0 (by omega)), ?_⟩
              have h1 := List.pairwise_iff_getElem.1 hS.up j (j + 1) (by simp; omega) (by simp; omega) (Nat.lt_succ_self _)
              simp only [List.getElem_map, he] at h1
              exact h1
            have HHAS : Hid (HasK D x) := hhas
            have HQ : Hid (D.atKey (.int .u64 x) zeroP.dat = q.dat) := hq
            clear hcl he hme hmx hhas hq hS hat hcg hG hM3 hb hH hes
            go_wp2_with fail
            by_cases hk0 : 0 < k
            · obtain ⟨j, y, hj, hcy, hyx⟩ := HP.out hk0
              clear HP
              have hkz : (k : Int) > 0 := by omega
              have hk1 : (k : Int) - 1 = (j : Int) := by omega
              have hjN : j < N := by omega
              clear hj
              go_quiet (fail)
              replace d0 : (wr.drewN nq).cell? ⟨g, k * 7, none⟩ = some (.int .u64 x) := d0
              replace d1 : (wr.drewN nq).cell? ⟨g, k * 7 + 1, none⟩ = some (.int .u64 q.r) := d1
              replace d2 : (wr.drewN nq).cell? ⟨g, k * 7 + 2, none⟩ = some (.int .u32 q.a) := d2
              replace d3 : (wr.drewN nq).cell? ⟨g, k * 7 + 3, none⟩ = some (.int .u32 q.b) := d3
              replace d4 : (wr.drewN nq).cell? ⟨g, k * 7 + 4, none⟩ = some (.int .u64 q.c) := d4
              replace d5 : (wr.drewN nq).cell? ⟨g, k * 7 + 5, none⟩ = some (.string q.s) := d5
              replace d6 : (wr.drewN nq).cell? ⟨g, k * 7 + 6, none⟩ = some (.bool q.x) := d6
              replace hMx : MapAt (wr.drewN nq) w.heap.size zs.length D := hMx
              replace HB : Hid (Below wo.heap.size wo (wr.drewN nq)) := ⟨HB.out.os, HB.out.tape, HB.out.output, HB.out.size, HB.out.block⟩
              replace hgl : g < (wr.drewN nq).heap.size := hgl
              clear hcy
              generalize wr.drewN nq = wq at *
              have r1 := World.rowIs_alloc wq #[.int .u64 q.r, .int .u32 q.a, .int .u32 q.b, .int .u64 q.c, .string q.s, .bool q.x] 49 (pF q.r q.a q.b q.c q.s q.x) (fun i hi => by match i, hi with | 0, _ | 1, _ | 2, _ | 3, _ | 4, _ | 5, _ => rfl)
              have hbq : Below wq.heap.size wq (wq.alloc (.cells #[.int .u64 q.r, .int .u32 q.a, .int .u32 q.b, .int .u64 q.c, .string q.s, .bool q.x] 49)) := (Below.refl _ _).alloc (Nat.le_refl _) _
              have HB2 : Hid (Below wo.heap.size wo (wq.alloc (.cells #[.int .u64 q.r, .int .u32 q.a, .int .u32 q.b, .int .u64 q.c, .string q.s, .bool q.x] 49))) := HB.out.alloc HB.out.size _
              go_wp2_with (first
                | (at_lookup; refine look_P _ rfl _ _ rfl w.heap.size zs.length D rfl (by exact hMx) x rfl hwf q HQ.out HHAS.out ?_)
                | go_in)
              generalize wq.alloc (.cells #[.int .u64 q.r, .int .u32 q.a, .int .u32 q.b, .int .u64 q.c, .string q.s, .bool q.x] 49) = wy at *
              have f1 : wy.cell? ⟨g, k * 7 + 1, none⟩ = some (.int .u64 q.r) := (hbq.cell (p := ⟨g, k * 7 + 1, none⟩) hgl).trans d1
              have f2 : wy.cell? ⟨g, k * 7 + 2, none⟩ = some (.int .u32 q.a) := (hbq.cell (p := ⟨g, k * 7 + 2, none⟩) hgl).trans d2
              have f3 : wy.cell? ⟨g, k * 7 + 3, none⟩ = some (.int .u32 q.b) := (hbq.cell (p := ⟨g, k * 7 + 3, none⟩) hgl).trans d3
              have f4 : wy.cell? ⟨g, k * 7 + 4, none⟩ = some (.int .u64 q.c) := (hbq.cell (p := ⟨g, k * 7 + 4, none⟩) hgl).trans d4
              have f5 : wy.cell? ⟨g, k * 7 + 5, none⟩ = some (.string q.s) := (hbq.cell (p := ⟨g, k * 7 + 5, none⟩) hgl).trans d5
              have f6 : wy.cell? ⟨g, k * 7 + 6, none⟩ = some (.bool q.x) := (hbq.cell (p := ⟨g, k * 7 + 6, none⟩) hgl).trans d6
              have g0 : wy.cell? ⟨wq.heap.size, 0, none⟩ = some (.int .u64 q.r) := r1.cell (i := 0) (by simp)
              have g1 : wy.cell? ⟨wq.heap.size, 1, none⟩ = some (.int .u32 q.a) := r1.cell (i := 1) (by simp)
              have g2 : wy.cell? ⟨wq.heap.size, 2, none⟩ = some (.int .u32 q.b) := r1.cell (i := 2) (by simp)
              have g3 : wy.cell? ⟨wq.heap.size, 3, none⟩ = some (.int .u64 q.c) := r1.cell (i := 3) (by simp)
              have g4 : wy.cell? ⟨wq.heap.size, 4, none⟩ = some (.string q.s) := r1.cell (i := 4) (by simp)
              have g5 : wy.cell? ⟨wq.heap.size, 5, none⟩ = some (.bool q.x) := r1.cell (i := 5) (by simp)
              clear r1 hbq HB HQ HHAS hMx
              go_quiet (fail)
              go_wp2_with fail
              go_roundg (N - (k + 1))
              case measure => omega
              case rel => exact ⟨k + 1, by omega, rfl, by go_num, ⟨HB2.out.os, HB2.out.tape, HB2.out.output, HB2.out.size, HB2.out.block⟩⟩
            · have hkz : decide ((k : Int) > 0) = false := decide_eq_false (by omega)
              have hkn : decide (0 < k) = false := decide_eq_false hk0
              go_quiet (fail)
              replace d0 : (wr.drewN nq).cell? ⟨g, k * 7, none⟩ = some (.int .u64 x) := d0
              replace d1 : (wr.drewN nq).cell? ⟨g, k * 7 + 1, none⟩ = some (.int .u64 q.r) := d1
              replace d2 : (wr.drewN nq).cell? ⟨g, k * 7 + 2, none⟩ = some (.int .u32 q.a) := d2
              replace d3 : (wr.drewN nq).cell? ⟨g, k * 7 + 3, none⟩ = some (.int .u32 q.b) := d3
              replace d4 : (wr.drewN nq).cell? ⟨g, k * 7 + 4, none⟩ = some (.int .u64 q.c) := d4
              replace d5 : (wr.drewN nq).cell? ⟨g, k * 7 + 5, none⟩ = some (.string q.s) := d5
              replace d6 : (wr.drewN nq).cell? ⟨g, k * 7 + 6, none⟩ = some (.bool q.x) := d6
              replace hMx : MapAt (wr.drewN nq) w.heap.size zs.length D := hMx
              replace HB : Hid (Below wo.heap.size wo (wr.drewN nq)) := ⟨HB.out.os, HB.out.tape, HB.out.output, HB.out.size, HB.out.block⟩
              replace hgl : g < (wr.drewN nq).heap.size := hgl
              generalize wr.drewN nq = wq at *
              have r1 := World.rowIs_alloc wq #[.int .u64 q.r, .int .u32 q.a, .int .u32 q.b, .int .u64 q.c, .string q.s, .bool q.x] 49 (pF q.r q.a q.b q.c q.s q.x) (fun i hi => by match i, hi with | 0, _ | 1, _ | 2, _ | 3, _ | 4, _ | 5, _ => rfl)
              have hbq : Below wq.heap.size wq (wq.alloc (.cells #[.int .u64 q.r, .int .u32 q.a, .int .u32 q.b, .int .u64 q.c, .string q.s, .bool q.x] 49)) := (Below.refl _ _).alloc (Nat.le_refl _) _
              have HB2 : Hid (Below wo.heap.size wo (wq.alloc (.cells #[.int .u64 q.r, .int .u32 q.a, .int .u32 q.b, .int .u64 q.c, .string q.s, .bool q.x] 49))) := HB.out.alloc HB.out.size _
              go_wp2_with (first
                | (at_lookup; refine look_P _ rfl _ _ rfl w.heap.size zs.length D rfl (by exact hMx) x rfl hwf q HQ.out HHAS.out ?_)
                | go_in)
              generalize wq.alloc (.cells #[.int .u64 q.r, .int .u32 q.a, .int .u32 q.b, .int .u64 q.c, .string q.s, .bool q.x] 49) = wy at *
              have f1 : wy.cell? ⟨g, k * 7 + 1, none⟩ = some (.int .u64 q.r) := (hbq.cell (p := ⟨g, k * 7 + 1, none⟩) hgl).trans d1
              have f2 : wy.cell? ⟨g, k * 7 + 2, none⟩ = some (.int .u32 q.a) := (hbq.cell (p := ⟨g, k * 7 + 2, none⟩) hgl).trans d2
              have f3 : wy.cell? ⟨g, k * 7 + 3, none⟩ = some (.int .u32 q.b) := (hbq.cell (p := ⟨g, k * 7 + 3, none⟩) hgl).trans d3
              have f4 : wy.cell? ⟨g, k * 7 + 4, none⟩ = some (.int .u64 q.c) := (hbq.cell (p := ⟨g, k * 7 + 4, none⟩) hgl).trans d4
              have f5 : wy.cell? ⟨g, k * 7 + 5, none⟩ = some (.string q.s) := (hbq.cell (p := ⟨g, k * 7 + 5, none⟩) hgl).trans d5
              have f6 : wy.cell? ⟨g, k * 7 + 6, none⟩ = some (.bool q.x) := (hbq.cell (p := ⟨g, k * 7 + 6, none⟩) hgl).trans d6
              have g0 : wy.cell? ⟨wq.heap.size, 0, none⟩ = some (.int .u64 q.r) := r1.cell (i := 0) (by simp)
              have g1 : wy.cell? ⟨wq.heap.size, 1, none⟩ = some (.int .u32 q.a) := r1.cell (i := 1) (by simp)
              have g2 : wy.cell? ⟨wq.heap.size, 2, none⟩ = some (.int .u32 q.b) := r1.cell (i := 2) (by simp)
              have g3 : wy.cell? ⟨wq.heap.size, 3, none⟩ = some (.int .u64 q.c) := r1.cell (i := 3) (by simp)
              have g4 : wy.cell? ⟨wq.heap.size, 4, none⟩ = some (.string q.s) := r1.cell (i := 4) (by simp)
              have g5 : wy.cell? ⟨wq.heap.size, 5, none⟩ = some (.bool q.x) := r1.cell (i := 5) (by simp)
              clear r1 hbq HB HQ HHAS hMx
              go_quiet (fail)
              go_wp2_with fail
              go_roundg (N - (k + 1))
              case measure => omega
              case rel => exact ⟨k + 1, by omega, rfl, by go_num, ⟨HB2.out.os, HB2.out.tape, HB2.out.output, HB2.out.size, HB2.out.block⟩⟩
          · clear hG hat hS hM3
            have hfin : Below w.heap.size w wr := hbel.trans (hb.mono (by omega))
            go_wp2_with fail
            go_ret
            exact ⟨rfl, hfin⟩
end Go.Proofs.Qxb6600076a
