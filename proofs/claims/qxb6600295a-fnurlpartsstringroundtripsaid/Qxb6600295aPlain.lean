/-
  The seat's own text, without Go: a URL's text out of its parts, and the cutting of a text; readable parts come back.
-/
namespace Go.Proofs.Qxb6600295a.Plain

/-- The first place of c. -/
def ix (c : UInt8) : List UInt8 → Option Nat
  | [] => none
  | x :: r => if x = c then some 0 else (ix c r).map (· + 1)
def isSS : List UInt8 → Bool
  | a :: b :: _ => a == 47 && b == 47
  | _ => false
/-- Where SCHEME:// begins the text: the place of the colon. -/
def se : List UInt8 → Option Nat
  | [] => none
  | x :: r => if x = 47 then none else if x = 58 then (if isSS r then some 0 else none) else (se r).map (· + 1)

structure Parts where
  scheme : List UInt8
  userinfo : List UInt8
  hosts : List UInt8
  path : List UInt8
  query : List UInt8
  fragment : List UInt8
  hasA : Bool
  hasU : Bool
  hasQ : Bool
  hasF : Bool

/-- What is cut off behind the first c. -/
def off (c : UInt8) (l : List UInt8) : List UInt8 × Bool × List UInt8 :=
  match ix c l with
  | some i => (l.take i, true, l.drop (i + 1))
  | none => (l, false, [])
/-- Userinfo and hosts of an authority. -/
def user (l : List UInt8) : List UInt8 × Bool × List UInt8 :=
  match ix 64 l with
  | some i => (l.take i, true, l.drop (i + 1))
  | none => ([], false, l)
def slash (l : List UInt8) : Nat := (ix 47 l).getD l.length
def cut (l : List UInt8) : Parts :=
  let f := off 35 l
  let q := off 63 f.1
  match se q.1 with
  | some n =>
    let r := q.1.drop (n + 3)
    let u := user (r.take (slash r))
    ⟨q.1.take n, u.1, u.2.2, r.drop (slash r), q.2.2, f.2.2, true, u.2.1, q.2.1, f.2.1⟩
  | none => ⟨[], [], [], q.1, q.2.2, f.2.2, false, false, q.2.1, f.2.1⟩

def auth (p : Parts) : List UInt8 := (if p.hasU then p.userinfo ++ [64] else []) ++ p.hosts
def text (p : Parts) : List UInt8 :=
  (if p.hasA then p.scheme ++ [58, 47, 47] ++ auth p else []) ++ p.path ++ (if p.hasQ then [63] ++ p.query else []) ++ (if p.hasF then [35] ++ p.fragment else [])

/-- No byte of l is among set. -/
def free (l set : List UInt8) : Prop := ∀ x ∈ l, x ∉ set

structure Readable (p : Parts) : Prop where
  path : free p.path [63, 35]
  query : free p.query [35]
  q0 : p.hasQ = false → p.query = []
  f0 : p.hasF = false → p.fragment = []
  u0 : p.hasU = false → p.userinfo = []
  a1 : p.hasA = true → free p.scheme [58, 47, 63, 35] ∧ free p.hosts [47, 63, 35, 64] ∧ (p.hasU = true → free p.userinfo [47, 63, 35, 64]) ∧ (p.path = [] ∨ ∃ r, p.path = 47 :: r)
  a0 : p.hasA = false → p.scheme = [] ∧ p.userinfo = [] ∧ p.hosts = [] ∧ p.hasU = false ∧ se p.path = none

theorem ix_none {c : UInt8} {l : List UInt8} (h : c ∉ l) : ix c l = none := by
  induction l with
  | nil => rfl
  | cons x r ih =>
    simp at h
    simp [ix, Ne.symm h.1, ih h.2]
theorem ix_app {c : UInt8} {l : List UInt8} (h : c ∉ l) (r : List UInt8) : ix c (l ++ c :: r) = some l.length := by
  induction l with
  | nil => simp [ix]
  | cons x t ih =>
    simp at h
    simp [ix, Ne.symm h.1, ih h.2]
theorem off_none {c : UInt8} {l : List UInt8} (h : c ∉ l) : off c l = (l, false, []) := by simp [off, ix_none h]
theorem off_app {c : UInt8} {l : List UInt8} (h : c ∉ l) (r : List UInt8) : off c (l ++ c :: r) = (l, true, r) := by
  rw [off, ix_app h]
  simp
theorem user_none {l : List UInt8} (h : (64 : UInt8) ∉ l) : user l = ([], false, l) := by simp [user, ix_none h]
theorem user_app {l : List UInt8} (h : (64 : UInt8) ∉ l) (r : List UInt8) : user (l ++ 64 :: r) = (l, true, r) := by
  rw [user, ix_app h]
  simp
theorem se_app {l : List UInt8} (h1 : (58 : UInt8) ∉ l) (h2 : (47 : UInt8) ∉ l) (r : List UInt8) : se (l ++ 58 :: 47 :: 47 :: r) = some l.length := by
  induction l with
  | nil => simp [se, isSS]
  | cons x t ih =>
    simp at h1 h2
    simp [se, Ne.symm h1.1, Ne.symm h2.1, ih h1.2 h2.2]
theorem free_not {l set : List UInt8} (h : free l set) {c : UInt8} (hc : c ∈ set) : c ∉ l := fun hl => h c hl hc

theorem auth_not {p : Parts} (h : Readable p) (ha : p.hasA = true) {c : UInt8} (hc : c ∈ ([47, 63, 35] : List UInt8)) : c ∉ auth p := by
  obtain ⟨_, hh, hu, _⟩ := h.a1 ha
  have hc' : c ∈ ([47, 63, 35, 64] : List UInt8) := by simp at hc ⊢; rcases hc with h | h | h <;> simp [h]
  have h64 : c ≠ 64 := by simp at hc; rcases hc with rfl | rfl | rfl <;> decide
  have h1 := free_not hh hc'
  unfold auth
  by_cases hU : p.hasU = true
  · have h2 := free_not (hu hU) hc'
    simp [hU, h1, h2, h64]
  · simp [hU, h1]
theorem front_not {p : Parts} (h : Readable p) {c : UInt8} (hc : c = 63 ∨ c = 35) : c ∉ (if p.hasA then p.scheme ++ [58, 47, 47] ++ auth p else []) ++ p.path := by
  have hp : c ∉ p.path := free_not h.path (by rcases hc with rfl | rfl <;> simp)
  by_cases hA : p.hasA = true
  · have hs : c ∉ p.scheme := free_not (h.a1 hA).1 (by rcases hc with rfl | rfl <;> simp)
    have ha := auth_not h hA (c := c) (by rcases hc with rfl | rfl <;> simp)
    have h3 : c ∉ ([58, 47, 47] : List UInt8) := by rcases hc with rfl | rfl <;> decide
    simp only [hA, if_true, List.mem_append, not_or]
    exact ⟨⟨⟨hs, h3⟩, ha⟩, hp⟩
  · simp [hA, hp]

theorem cut_text (p : Parts) (h : Readable p) : cut (text p) = p := by
  have e1 : off 35 (text p) = ((if p.hasA then p.scheme ++ [58, 47, 47] ++ auth p else []) ++ p.path ++ (if p.hasQ then [63] ++ p.query else []), p.hasF, p.fragment) := by
    have hq : (35 : UInt8) ∉ (if p.hasA then p.scheme ++ [58, 47, 47] ++ auth p else []) ++ p.path ++ (if p.hasQ then [63] ++ p.query else []) := by
      have h1 := front_not h (c := 35) (.inr rfl)
      have h2 : (35 : UInt8) ∉ p.query := free_not h.query (by simp)
      rw [List.mem_append, not_or]
      refine ⟨h1, ?_⟩
      cases p.hasQ <;> simp [h2]
    unfold text
    cases hF : p.hasF with
    | true => simpa using off_app hq p.fragment
    | false => rw [h.f0 hF]; simpa using off_none hq
  have e2 : off 63 ((if p.hasA then p.scheme ++ [58, 47, 47] ++ auth p else []) ++ p.path ++ (if p.hasQ then [63] ++ p.query else [])) = ((if p.hasA then p.scheme ++ [58, 47, 47] ++ auth p else []) ++ p.path, p.hasQ, p.query) := by
    have hq := front_not h (c := 63) (.inl rfl)
    cases hQ : p.hasQ with
    | true => simpa using off_app hq p.query
    | false => rw [h.q0 hQ]; simpa using off_none hq
  unfold cut
  simp only [e1, e2]
  cases hA : p.hasA with
  | false =>
    obtain ⟨h1, h2, h3, h4, h5⟩ := h.a0 hA
    simp only [Bool.false_eq_true, if_false, List.nil_append, h5]
    cases p
    simp_all
  | true =>
    obtain ⟨hs, hh, hu, hp⟩ := h.a1 hA
    have es : se (p.scheme ++ [58, 47, 47] ++ auth p ++ p.path) = some p.scheme.length := by
      have := se_app (free_not hs (c := 58) (by simp)) (free_not hs (c := 47) (by simp)) (auth p ++ p.path)
      simpa using this
    have er : (p.scheme ++ [58, 47, 47] ++ auth p ++ p.path).drop (p.scheme.length + 3) = auth p ++ p.path := by
      have : p.scheme.length + 3 = (p.scheme ++ [58, 47, 47]).length := by simp
      rw [List.append_assoc (p.scheme ++ [58, 47, 47]), this, List.drop_left]
    have et : (p.scheme ++ [58, 47, 47] ++ auth p ++ p.path).take p.scheme.length = p.scheme := by simp [List.append_assoc]
    have ha := auth_not h hA (c := 47) (by simp)
    have ej : slash (auth p ++ p.path) = (auth p).length := by
      unfold slash
      rcases hp with hp | ⟨r, hp⟩
      · rw [hp, List.append_nil, ix_none ha]; rfl
      · rw [hp, ix_app ha]; rfl
    simp only [if_true, es, er, ej, et, List.take_left, List.drop_left]
    have eu : user (auth p) = (p.userinfo, p.hasU, p.hosts) := by
      unfold auth
      cases hU : p.hasU with
      | true => simpa using user_app (free_not (hu hU) (c := 64) (by simp)) p.hosts
      | false => rw [h.u0 hU]; simpa using user_none (free_not hh (c := 64) (by simp))
    rw [eu]
    cases p
    simp_all
end Go.Proofs.Qxb6600295a.Plain
