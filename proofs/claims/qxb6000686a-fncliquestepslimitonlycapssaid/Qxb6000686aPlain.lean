namespace Go.Proofs.Qxb6000686a.Plain

/-! ### The steps: descending factorials and their sum -/
def dfac (k : Nat) : Nat → Nat
  | 0 => 1
  | j + 1 => dfac k j * (k - j)
def tot (k : Nat) : Nat → Nat
  | 0 => 0
  | j + 1 => tot k j + (if 1 ≤ j then dfac k (j + 1) / (j + 1) * (j + 2) else 0)

theorem dfac_one (k : Nat) : dfac k 1 = k := by simp [dfac]
theorem tot_one (k : Nat) : tot k 1 = 0 := by simp [tot]
theorem dfac_two (k : Nat) : dfac k 2 = k * (k - 1) := by simp [dfac]
theorem dfac_ge_two (k j : Nat) (h2 : 2 ≤ j) (hk : j ≤ k) : dfac k 2 ≤ dfac k j := by
  induction j with
  | zero => omega
  | succ i ih =>
    by_cases e : i + 1 = 2
    · rw [e]; exact Nat.le_refl _
    · have := ih (by omega) (by omega)
      have h1 : 1 ≤ k - i := by omega
      have h3 : dfac k i * 1 ≤ dfac k i * (k - i) := Nat.mul_le_mul_left _ h1
      simp only [dfac] at *
      omega
theorem dfac_ge (k j : Nat) (h2 : 2 ≤ j) (hk : j ≤ k) : j * (j - 1) ≤ dfac k j := by
  have h := dfac_ge_two k j h2 hk
  rw [dfac_two] at h
  have : j * (j - 1) ≤ k * (k - 1) := Nat.mul_le_mul hk (by omega)
  omega
theorem tot_mono (k i j : Nat) (h : i ≤ j) : tot k i ≤ tot k j := by
  induction j with
  | zero => have : i = 0 := by omega
            subst this; exact Nat.le_refl _
  | succ m ih =>
    by_cases e : i = m + 1
    · rw [e]; exact Nat.le_refl _
    · have := ih (by omega)
      simp only [tot]
      omega
theorem term_ge (o j : Nat) (h2 : 2 ≤ j) (h : j * (j - 1) ≤ o) : o ≤ o / j * (j + 1) := by
  have hq : j - 1 ≤ o / j := by
    rw [Nat.le_div_iff_mul_le (by omega)]
    rw [Nat.mul_comm]; exact h
  have hm := Nat.div_add_mod o j
  have hl : o % j < j := Nat.mod_lt _ (by omega)
  have e : o / j * (j + 1) = j * (o / j) + o / j := by rw [Nat.mul_add, Nat.mul_one, Nat.mul_comm]
  omega
/-- The way out ahead of time: more orders than the limit are more steps than the limit. -/
theorem early (k j L : Nat) (h2 : 2 ≤ j) (hk : j ≤ k) (h : L < dfac k j) : L + 1 ≤ tot k k := by
  have h1 := term_ge (dfac k j) j h2 (dfac_ge k j h2 hk)
  have h3 := tot_mono k j k hk
  obtain ⟨i, rfl⟩ : ∃ i, j = i + 1 := ⟨j - 1, by omega⟩
  have h4 : tot k (i + 1) = tot k i + dfac k (i + 1) / (i + 1) * (i + 2) := by
    simp only [tot]; rw [if_pos (by omega)]
  rw [show i + 1 + 1 = i + 2 from rfl] at h1
  omega
theorem tot_pos (k : Nat) (h : 2 ≤ k) : 1 ≤ tot k k := by
  have h3 := tot_mono k 2 k h
  have h4 : tot k 2 = dfac k 2 / 2 * 3 := by simp [tot]
  have h5 := dfac_ge k 2 (by omega) h
  have : 1 ≤ dfac k 2 / 2 := by omega
  omega

/-! ### What the two capped operations give -/
def mulS (L x y : Nat) : Nat := min (x * y) (L + 1)
def addS (L x y : Nat) : Nat := min (x + y) (L + 1)
theorem mul_cap (M x y : Nat) (hy : 0 < y) : (M / y < x ↔ M < x * y) := by
  rw [Nat.div_lt_iff_lt_mul hy]
theorem add_min (L a b : Nat) : addS L (min a (L + 1)) (min b (L + 1)) = min (a + b) (L + 1) := by
  unfold addS; omega

/-! ### The clique's size -/
def pass (E F : Nat → List Nat) (x c : Nat) : Bool := (E x).contains c && (F x).contains c
def grow (E F : Nat → List Nat) : Nat → Nat → List Nat → Nat
  | 0, _, _ => 0
  | f + 1, x, cs => match cs.filter (pass E F x) with
    | [] => 0
    | c :: t => 1 + grow E F f c (c :: t)
def cliqueK (E F : Nat → List Nat) (r : Nat) : Nat := 1 + grow E F ((E r).length + 1) r (E r)

theorem grow_le (E F : Nat → List Nat) (f x : Nat) (cs : List Nat) : grow E F f x cs ≤ f := by
  induction f generalizing x cs with
  | zero => simp [grow]
  | succ f ih =>
    simp only [grow]
    split
    · omega
    · next c t _ => have := ih c (c :: t); omega
theorem grow_nil (E F : Nat → List Nat) (f x : Nat) (cs : List Nat) (h : cs.filter (pass E F x) = []) : grow E F (f + 1) x cs = 0 := by
  simp only [grow]; rw [h]
theorem grow_cons (E F : Nat → List Nat) (f x : Nat) (cs : List Nat) (c : Nat) (t : List Nat) (h : cs.filter (pass E F x) = c :: t) : grow E F (f + 1) x cs = 1 + grow E F f c (c :: t) := by
  simp only [grow]; rw [h]
theorem cliqueK_one (E F : Nat → List Nat) (r : Nat) : cliqueK E F r = 1 ↔ ∀ c ∈ E r, ¬ c ∈ F r := by
  unfold cliqueK
  constructor
  · intro h c hc hF
    have hm : c ∈ (E r).filter (pass E F r) := by
      rw [List.mem_filter]; exact ⟨hc, by simp [pass, hc, hF]⟩
    cases hf : (E r).filter (pass E F r) with
    | nil => rw [hf] at hm; cases hm
    | cons a t => rw [grow_cons E F _ _ _ a t hf] at h; omega
  · intro h
    rw [grow_nil]
    rw [List.filter_eq_nil_iff]
    intro c hc
    simp [pass, h c hc]
theorem cliqueK_pos (E F : Nat → List Nat) (r : Nat) : 1 ≤ cliqueK E F r := by unfold cliqueK; omega
theorem cliqueK_le (E F : Nat → List Nat) (r : Nat) : cliqueK E F r ≤ (E r).length + 2 := by
  have := grow_le E F ((E r).length + 1) r (E r)
  unfold cliqueK; omega
/-- x is no blocker of its own: it does not pass. -/
theorem filter_lt (E F : Nat → List Nat) (x : Nat) (cs : List Nat) (hx : x ∈ cs) (hs : ¬ x ∈ E x) : (cs.filter (pass E F x)).length < cs.length := by
  have h : ¬ (cs.filter (pass E F x)).length = cs.length := by
    intro h
    rw [List.length_filter_eq_length_iff] at h
    have := h x hx
    simp [pass, hs] at this
  have := List.length_filter_le (pass E F x) cs
  omega

/-! ### Who waits -/
def sel (ps : List (Nat × Nat)) (w : Nat) : List Nat := (ps.filter (fun p => p.1 == w)).map Prod.snd
theorem sel_snoc (ps : List (Nat × Nat)) (a b w : Nat) : sel (ps ++ [(a, b)]) w = if a = w then sel ps w ++ [b] else sel ps w := by
  unfold sel
  by_cases h : a = w <;> simp [List.filter_append, h]
theorem sel_le (ps : List (Nat × Nat)) (w : Nat) : (sel ps w).length ≤ ps.length := by
  unfold sel; simpa using List.length_filter_le _ ps
theorem mem_sel (ps : List (Nat × Nat)) (w c : Nat) : c ∈ sel ps w ↔ (w, c) ∈ ps := by
  unfold sel
  simp
def pairsUp (E : Nat → List Nat) (v : Nat) : List (Nat × Nat) := (List.range v).flatMap fun u => (E u).map fun w => (w, u)
def pairsTo (E : Nat → List Nat) (v i : Nat) : List (Nat × Nat) := pairsUp E v ++ ((E v).take i).map fun w => (w, v)
theorem pairsTo_zero (E : Nat → List Nat) : pairsTo E 0 0 = [] := by simp [pairsTo, pairsUp]
theorem pairsTo_next (E : Nat → List Nat) (v : Nat) : pairsTo E v (E v).length = pairsTo E (v + 1) 0 := by
  simp [pairsTo, pairsUp, List.range_succ]
theorem pairsTo_step (E : Nat → List Nat) (v i : Nat) (h : i < (E v).length) : pairsTo E v (i + 1) = pairsTo E v i ++ [((E v)[i], v)] := by
  unfold pairsTo
  rw [List.take_succ_eq_append_getElem h, List.map_append, List.append_assoc]
  rfl
def rev (E : Nat → List Nat) (n w : Nat) : List Nat := sel (pairsUp E n) w
theorem mem_rev (E : Nat → List Nat) (n w c : Nat) : c ∈ rev E n w ↔ c < n ∧ w ∈ E c := by
  unfold rev
  rw [mem_sel]
  simp only [pairsUp, List.mem_flatMap, List.mem_range, List.mem_map, Prod.mk.injEq]
  constructor
  · rintro ⟨a, ha, b, hb, rfl, rfl⟩; exact ⟨ha, hb⟩
  · rintro ⟨h1, h2⟩; exact ⟨c, h1, w, h2, rfl, rfl⟩
/-- How many edges the first v rows hold. -/
def edgesUp (E : Nat → List Nat) (v : Nat) : Nat := (pairsUp E v).length
theorem edgesUp_zero (E : Nat → List Nat) : edgesUp E 0 = 0 := rfl
theorem edgesUp_succ (E : Nat → List Nat) (v : Nat) : edgesUp E (v + 1) = edgesUp E v + (E v).length := by
  simp [edgesUp, pairsUp, List.range_succ]
theorem edgesUp_mono (E : Nat → List Nat) (i j : Nat) (h : i ≤ j) : edgesUp E i ≤ edgesUp E j := by
  induction j with
  | zero => have : i = 0 := by omega
            subst this; exact Nat.le_refl _
  | succ m ih =>
    by_cases e : i = m + 1
    · rw [e]; exact Nat.le_refl _
    · have := ih (by omega)
      rw [edgesUp_succ]; omega
theorem pairsTo_len (E : Nat → List Nat) (v i : Nat) (h : i ≤ (E v).length) : (pairsTo E v i).length = edgesUp E v + i := by
  simp [pairsTo, edgesUp]; omega

/-! ### The two laws -/
def steps (E F : Nat → List Nat) (r L : Nat) : Nat := min (tot (cliqueK E F r) (cliqueK E F r)) (L + 1)
theorem steps_zero (E F : Nat → List Nat) (r L : Nat) : steps E F r L = 0 ↔ ∀ c ∈ E r, ¬ c ∈ F r := by
  rw [← cliqueK_one]
  unfold steps
  constructor
  · intro h
    have h1 := cliqueK_pos E F r
    by_cases e : cliqueK E F r = 1
    · exact e
    · have := tot_pos (cliqueK E F r) (by omega); omega
  · intro h
    rw [h, tot_one]; omega
theorem steps_le (E F : Nat → List Nat) (r L : Nat) : steps E F r L ≤ L + 1 := by unfold steps; omega
theorem steps_caps (E F : Nat → List Nat) (r low high : Nat) (h : low ≤ high) : steps E F r low = min (steps E F r high) (low + 1) := by
  unfold steps; omega
end Go.Proofs.Qxb6000686a.Plain
